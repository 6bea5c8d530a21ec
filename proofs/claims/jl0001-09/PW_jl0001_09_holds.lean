import PyProof.Rows.All
import Wide.All
import OpenK.AllK
import Wide.FinOn
import PyProof.EnumFor
import PyProof.EnumStmt
import PyProof.EnumMake
import PyProof.Rows.EqNone
import PyProof.Rows.RuleN_abs
import PyProof.RulesFinally
import PyProof.Rows.EqMixed
import KE.KEqDict
import Lean
import PySem.Challenge.RW_jl0001_09
open PySem PySem.W PySem.Calls PyProof.Rows
set_option Elab.async false
set_option linter.unusedVariables false
set_option maxRecDepth 100000
set_option maxHeartbeats 0
namespace Hd
noncomputable section
abbrev pg : Program := PySem.Challenge.pw_jl0001_09
noncomputable def stTop (i : Nat) : Stmt := pg.main.body.getD i (.Pass ⟨0, 0, 0, 0⟩)
noncomputable def clsBody : Stmt → List Stmt
  | .ClassDef _ _ _ b .. => b
  | _ => []
noncomputable def stIn (i j : Nat) : Stmt := (clsBody (stTop i)).getD j (.Pass ⟨0, 0, 0, 0⟩)
noncomputable def fnParams : Stmt → Arguments
  | .FunctionDef _ a .. => a
  | _ => ⟨[], [], none, [], [], none, []⟩
noncomputable def fnBody : Stmt → List Stmt
  | .FunctionDef _ _ b .. => b
  | _ => []
noncomputable def fnScope : Stmt → Scope
  | .FunctionDef _ _ _ _ _ _ s .. => s
  | _ => { kind := .function, names := [], isGenerator := false, isCoroutine := false, more := [] }
noncomputable def lifeH : Life := { registered := [], finalised := [], alive := [], known := 0, ids := [], orphanDicts := [], counting := false, cnt := #[], zero := [], soft := 0, below := false, collecting := false, loading := false, debug := 0, thresholds := [2000, 10, 10], woke := false, asked := 0, gcEnabled := true, old := [], middle := [], young := 0, intoMiddle := false }
noncomputable def o11_0 (P : Params) : Obj := ⟨(.type "tuple"), none, (.seq #[] 0), #[]⟩
noncomputable def o12_1 (P : Params) : Obj := ⟨.none, none, (.fields #[]), #[]⟩
noncomputable def o13_2 (P : Params) : Obj := ⟨(.type "code"), none, (.fields #[(.str (Str.ofString "<module>") 182), (.str (Str.ofString "<module>") 183), (.str (Str.ofString "/claim/cut.py") 184), (.int 1 0), (.int 0 0), (.int 0 0), (.int 0 0), (.int 0 0), (.ref 11), (.bool false), (.int 181 0), (.ref 12), .none, .none, .none, .none, (.int 185 0), (.int 1 0), (.str (Str.ofString "/claim/cut.py") 186)]), #[]⟩
noncomputable def o14_3 (P : Params) : Obj := ⟨(.type "frame"), none, .plain, #[(some (.ref 13)), (some (.ref 3)), (some (.ref 3)), none, (some (.str (Str.ofString "__main__") 164)), none, (some (.ref 0))]⟩
noncomputable def trP (P : Params) : BT := (.node (boot_o_0 P) (.node (boot_o_1 P) (.node (boot_o_3 P) (.node (boot_o_7 P) .nil .nil) (.node (o11_0 P) .nil .nil)) (.node (boot_o_5 P) (.node (boot_o_9 P) .nil .nil) (.node (o13_2 P) .nil .nil))) (.node (boot_o_2 P) (.node (boot_o_4 P) (.node (boot_o_8 P) .nil .nil) (.node (o12_1 P) .nil .nil)) (.node (boot_o_6 P) (.node (boot_o_10 P) .nil .nil) (.node (o14_3 P) .nil .nil))))
noncomputable def SP (w : World) (os : OsState) : SharedT := ⟨trP w.params, 15, lifeH, ⟨[]⟩, ⟨0, 0, 0, 0⟩, 187, os⟩
noncomputable def trB (P : Params) : BT := (.node (boot_o_0 P) (.node (boot_o_1 P) (.node (boot_o_3 P) (.node (boot_o_7 P) .nil .nil) (.node (o11_0 P) .nil .nil)) (.node (boot_o_5 P) (.node (boot_o_9 P) .nil .nil) (.node (o13_2 P) .nil .nil))) (.node (boot_o_2 P) (.node (boot_o_4 P) (.node (boot_o_8 P) .nil .nil) (.node (o12_1 P) .nil .nil)) (.node (boot_o_6 P) (.node (boot_o_10 P) .nil .nil) (.node (o14_3 P) .nil .nil))))
noncomputable def SB (w : World) (os : OsState) : SharedT := ⟨trB w.params, 15, lifeH, ⟨[]⟩, ⟨0, 0, 0, 0⟩, 187, os⟩
noncomputable def o3_4 (P : Params) : Obj := ⟨(.type "dict"), none, (.dict #[⟨(PyData.keyHash P (Str.ofString "__name__")), (.str (Str.ofString "__name__") 165), (.str (Str.ofString "__main__") 164)⟩, ⟨(PyData.keyHash P (Str.ofString "__doc__")), (.str (Str.ofString "__doc__") 166), .none⟩, ⟨(PyData.keyHash P (Str.ofString "__package__")), (.str (Str.ofString "__package__") 167), .none⟩, ⟨(PyData.keyHash P (Str.ofString "__loader__")), (.str (Str.ofString "__loader__") 168), (.builtin "__main__.__loader__#opaque")⟩, ⟨(PyData.keyHash P (Str.ofString "__spec__")), (.str (Str.ofString "__spec__") 169), .none⟩, ⟨(PyData.keyHash P (Str.ofString "__annotations__")), (.str (Str.ofString "__annotations__") 170), (.ref 6)⟩, ⟨(PyData.keyHash P (Str.ofString "__builtins__")), (.str (Str.ofString "__builtins__") 171), (.ref 4)⟩, ⟨(PyData.keyHash P (Str.ofString "__file__")), (.str (Str.ofString "__file__") 173), (.str (Str.ofString "/claim/cut.py") 172)⟩, ⟨(PyData.keyHash P (Str.ofString "__cached__")), (.str (Str.ofString "__cached__") 174), .none⟩, ⟨(PyData.keyHash P (Str.ofString "_wall")), (.str (Str.ofString "_wall") 193), (.ref 21)⟩] 10), #[]⟩
noncomputable def o12_5 (P : Params) : Obj := ⟨.none, none, (.fields #[(.int 1 0), (.int 0 0), (.ref 20)]), #[]⟩
noncomputable def o15_6 (P : Params) : Obj := ⟨(.type "tuple"), none, (.seq #[] 0), #[]⟩
noncomputable def o16_7 (P : Params) : Obj := ⟨.none, none, (.fields #[]), #[]⟩
noncomputable def o17_8 (P : Params) : Obj := ⟨(.type "tuple"), none, (.seq #[(.str (Str.ofString "k") 190)] 0), #[]⟩
noncomputable def o18_9 (P : Params) : Obj := ⟨(.type "tuple"), none, (.seq #[] 0), #[]⟩
noncomputable def o19_10 (P : Params) : Obj := ⟨.none, none, (.func { name := (Str.ofString "_wall"), qualname := (Str.ofString "_wall"), params := (fnParams (stTop 0)), body := (.stmts (fnBody (stTop 0))), scope := (fnScope (stTop 0)), globals := 0, closure := [], defaults := .none, kwdefaults := .none, doc := .none, pyModule := .none, annotations := none, code := .none, closureTuple := .none, builtins := 0 }), #[]⟩
noncomputable def o20_11 (P : Params) : Obj := ⟨(.type "code"), none, (.fields #[(.str (Str.ofString "_wall") 187), (.str (Str.ofString "_wall") 188), (.str (Str.ofString "/claim/cut.py") 189), (.int 1 0), (.int 1 0), (.int 0 0), (.int 0 0), (.int 3 0), (.ref 15), (.bool true), (.int 181 0), (.ref 16), .none, (.ref 17), (.ref 18), (.ref 19), (.int 191 0), (.int 1 0), (.str (Str.ofString "/claim/cut.py") 192)]), #[]⟩
noncomputable def o21_12 (P : Params) : Obj := ⟨(.type "function"), none, (.func { name := (Str.ofString "_wall"), qualname := (Str.ofString "_wall"), params := (fnParams (stTop 0)), body := (.stmts (fnBody (stTop 0))), scope := (fnScope (stTop 0)), globals := 3, closure := [], defaults := .none, kwdefaults := .none, doc := .none, pyModule := (.str (Str.ofString "__main__") 164), annotations := none, code := (.ref 20), closureTuple := .none, builtins := 0 }), #[]⟩
noncomputable def tr0 (P : Params) : BT := (.node (boot_o_0 P) (.node (boot_o_1 P) (.node (o3_4 P) (.node (boot_o_7 P) (.node (o15_6 P) .nil .nil) .nil) (.node (o11_0 P) (.node (o19_10 P) .nil .nil) .nil)) (.node (boot_o_5 P) (.node (boot_o_9 P) (.node (o17_8 P) .nil .nil) .nil) (.node (o13_2 P) (.node (o21_12 P) .nil .nil) .nil))) (.node (boot_o_2 P) (.node (boot_o_4 P) (.node (boot_o_8 P) (.node (o16_7 P) .nil .nil) .nil) (.node (o12_5 P) (.node (o20_11 P) .nil .nil) .nil)) (.node (boot_o_6 P) (.node (boot_o_10 P) (.node (o18_9 P) .nil .nil) .nil) (.node (o14_3 P) .nil .nil))))
noncomputable def S0 (w : World) (os : OsState) : SharedT := ⟨tr0 w.params, 22, lifeH, ⟨[]⟩, ⟨0, 0, 0, 0⟩, 194, os⟩
noncomputable def o3_13 (P : Params) : Obj := ⟨(.type "dict"), none, (.dict #[⟨(PyData.keyHash P (Str.ofString "__name__")), (.str (Str.ofString "__name__") 165), (.str (Str.ofString "priority.heaps") 194)⟩, ⟨(PyData.keyHash P (Str.ofString "__doc__")), (.str (Str.ofString "__doc__") 166), .none⟩, ⟨(PyData.keyHash P (Str.ofString "__package__")), (.str (Str.ofString "__package__") 167), .none⟩, ⟨(PyData.keyHash P (Str.ofString "__loader__")), (.str (Str.ofString "__loader__") 168), (.builtin "__main__.__loader__#opaque")⟩, ⟨(PyData.keyHash P (Str.ofString "__spec__")), (.str (Str.ofString "__spec__") 169), .none⟩, ⟨(PyData.keyHash P (Str.ofString "__annotations__")), (.str (Str.ofString "__annotations__") 170), (.ref 6)⟩, ⟨(PyData.keyHash P (Str.ofString "__builtins__")), (.str (Str.ofString "__builtins__") 171), (.ref 4)⟩, ⟨(PyData.keyHash P (Str.ofString "__file__")), (.str (Str.ofString "__file__") 173), (.str (Str.ofString "/claim/cut.py") 172)⟩, ⟨(PyData.keyHash P (Str.ofString "__cached__")), (.str (Str.ofString "__cached__") 174), .none⟩, ⟨(PyData.keyHash P (Str.ofString "_wall")), (.str (Str.ofString "_wall") 193), (.ref 21)⟩] 10), #[]⟩
noncomputable def tr1 (P : Params) : BT := (.node (boot_o_0 P) (.node (boot_o_1 P) (.node (o3_13 P) (.node (boot_o_7 P) (.node (o15_6 P) .nil .nil) .nil) (.node (o11_0 P) (.node (o19_10 P) .nil .nil) .nil)) (.node (boot_o_5 P) (.node (boot_o_9 P) (.node (o17_8 P) .nil .nil) .nil) (.node (o13_2 P) (.node (o21_12 P) .nil .nil) .nil))) (.node (boot_o_2 P) (.node (boot_o_4 P) (.node (boot_o_8 P) (.node (o16_7 P) .nil .nil) .nil) (.node (o12_5 P) (.node (o20_11 P) .nil .nil) .nil)) (.node (boot_o_6 P) (.node (boot_o_10 P) (.node (o18_9 P) .nil .nil) .nil) (.node (o14_3 P) .nil .nil))))
noncomputable def S1 (w : World) (os : OsState) : SharedT := ⟨tr1 w.params, 22, lifeH, ⟨[]⟩, ⟨0, 0, 0, 0⟩, 196, os⟩
noncomputable def o3_14 (P : Params) : Obj := ⟨(.type "dict"), none, (.dict #[⟨(PyData.keyHash P (Str.ofString "__name__")), (.str (Str.ofString "__name__") 165), (.str (Str.ofString "priority.heaps") 194)⟩, ⟨(PyData.keyHash P (Str.ofString "__doc__")), (.str (Str.ofString "__doc__") 166), .none⟩, ⟨(PyData.keyHash P (Str.ofString "__package__")), (.str (Str.ofString "__package__") 167), .none⟩, ⟨(PyData.keyHash P (Str.ofString "__loader__")), (.str (Str.ofString "__loader__") 168), (.builtin "__main__.__loader__#opaque")⟩, ⟨(PyData.keyHash P (Str.ofString "__spec__")), (.str (Str.ofString "__spec__") 169), .none⟩, ⟨(PyData.keyHash P (Str.ofString "__annotations__")), (.str (Str.ofString "__annotations__") 170), (.ref 6)⟩, ⟨(PyData.keyHash P (Str.ofString "__builtins__")), (.str (Str.ofString "__builtins__") 171), (.ref 4)⟩, ⟨(PyData.keyHash P (Str.ofString "__file__")), (.str (Str.ofString "__file__") 173), (.str (Str.ofString "/claim/cut.py") 172)⟩, ⟨(PyData.keyHash P (Str.ofString "__cached__")), (.str (Str.ofString "__cached__") 174), .none⟩, ⟨(PyData.keyHash P (Str.ofString "_wall")), (.str (Str.ofString "_wall") 193), (.ref 21)⟩, ⟨(PyData.keyHash P (Str.ofString "_ahead")), (.str (Str.ofString "_ahead") 203), (.ref 28)⟩] 11), #[]⟩
noncomputable def o12_15 (P : Params) : Obj := ⟨.none, none, (.fields #[(.int 1 0), (.int 0 0), (.ref 20), (.int 5 0), (.int 0 0), (.ref 27)]), #[]⟩
noncomputable def o22_16 (P : Params) : Obj := ⟨(.type "tuple"), none, (.seq #[] 0), #[]⟩
noncomputable def o23_17 (P : Params) : Obj := ⟨.none, none, (.fields #[]), #[]⟩
noncomputable def o24_18 (P : Params) : Obj := ⟨(.type "tuple"), none, (.seq #[(.str (Str.ofString "one") 199), (.str (Str.ofString "other") 200)] 0), #[]⟩
noncomputable def o25_19 (P : Params) : Obj := ⟨(.type "tuple"), none, (.seq #[] 0), #[]⟩
noncomputable def o26_20 (P : Params) : Obj := ⟨.none, none, (.func { name := (Str.ofString "_ahead"), qualname := (Str.ofString "_ahead"), params := (fnParams (stTop 2)), body := (.stmts (fnBody (stTop 2))), scope := (fnScope (stTop 2)), globals := 0, closure := [], defaults := .none, kwdefaults := .none, doc := .none, pyModule := .none, annotations := none, code := .none, closureTuple := .none, builtins := 0 }), #[]⟩
noncomputable def o27_21 (P : Params) : Obj := ⟨(.type "code"), none, (.fields #[(.str (Str.ofString "_ahead") 196), (.str (Str.ofString "_ahead") 197), (.str (Str.ofString "/claim/cut.py") 198), (.int 5 0), (.int 2 0), (.int 0 0), (.int 0 0), (.int 3 0), (.ref 22), (.bool true), (.int 181 0), (.ref 23), .none, (.ref 24), (.ref 25), (.ref 26), (.int 201 0), (.int 5 0), (.str (Str.ofString "/claim/cut.py") 202)]), #[]⟩
noncomputable def o28_22 (P : Params) : Obj := ⟨(.type "function"), none, (.func { name := (Str.ofString "_ahead"), qualname := (Str.ofString "_ahead"), params := (fnParams (stTop 2)), body := (.stmts (fnBody (stTop 2))), scope := (fnScope (stTop 2)), globals := 3, closure := [], defaults := .none, kwdefaults := .none, doc := .none, pyModule := (.str (Str.ofString "priority.heaps") 194), annotations := none, code := (.ref 27), closureTuple := .none, builtins := 0 }), #[]⟩
noncomputable def tr2 (P : Params) : BT := (.node (boot_o_0 P) (.node (boot_o_1 P) (.node (o3_14 P) (.node (boot_o_7 P) (.node (o15_6 P) .nil .nil) (.node (o23_17 P) .nil .nil)) (.node (o11_0 P) (.node (o19_10 P) .nil .nil) (.node (o27_21 P) .nil .nil))) (.node (boot_o_5 P) (.node (boot_o_9 P) (.node (o17_8 P) .nil .nil) (.node (o25_19 P) .nil .nil)) (.node (o13_2 P) (.node (o21_12 P) .nil .nil) .nil))) (.node (boot_o_2 P) (.node (boot_o_4 P) (.node (boot_o_8 P) (.node (o16_7 P) .nil .nil) (.node (o24_18 P) .nil .nil)) (.node (o12_15 P) (.node (o20_11 P) .nil .nil) (.node (o28_22 P) .nil .nil))) (.node (boot_o_6 P) (.node (boot_o_10 P) (.node (o18_9 P) .nil .nil) (.node (o26_20 P) .nil .nil)) (.node (o14_3 P) (.node (o22_16 P) .nil .nil) .nil))))
noncomputable def S2 (w : World) (os : OsState) : SharedT := ⟨tr2 w.params, 29, lifeH, ⟨[]⟩, ⟨0, 0, 0, 0⟩, 204, os⟩
noncomputable def o3_23 (P : Params) : Obj := ⟨(.type "dict"), none, (.dict #[⟨(PyData.keyHash P (Str.ofString "__name__")), (.str (Str.ofString "__name__") 165), (.str (Str.ofString "priority.heaps") 194)⟩, ⟨(PyData.keyHash P (Str.ofString "__doc__")), (.str (Str.ofString "__doc__") 166), .none⟩, ⟨(PyData.keyHash P (Str.ofString "__package__")), (.str (Str.ofString "__package__") 167), .none⟩, ⟨(PyData.keyHash P (Str.ofString "__loader__")), (.str (Str.ofString "__loader__") 168), (.builtin "__main__.__loader__#opaque")⟩, ⟨(PyData.keyHash P (Str.ofString "__spec__")), (.str (Str.ofString "__spec__") 169), .none⟩, ⟨(PyData.keyHash P (Str.ofString "__annotations__")), (.str (Str.ofString "__annotations__") 170), (.ref 6)⟩, ⟨(PyData.keyHash P (Str.ofString "__builtins__")), (.str (Str.ofString "__builtins__") 171), (.ref 4)⟩, ⟨(PyData.keyHash P (Str.ofString "__file__")), (.str (Str.ofString "__file__") 173), (.str (Str.ofString "/claim/cut.py") 172)⟩, ⟨(PyData.keyHash P (Str.ofString "__cached__")), (.str (Str.ofString "__cached__") 174), .none⟩, ⟨(PyData.keyHash P (Str.ofString "_wall")), (.str (Str.ofString "_wall") 193), (.ref 21)⟩, ⟨(PyData.keyHash P (Str.ofString "_ahead")), (.str (Str.ofString "_ahead") 203), (.ref 28)⟩, ⟨(PyData.keyHash P (Str.ofString "heappush")), (.str (Str.ofString "heappush") 212), (.ref 35)⟩] 12), #[]⟩
noncomputable def o12_24 (P : Params) : Obj := ⟨.none, none, (.fields #[(.int 1 0), (.int 0 0), (.ref 20), (.int 5 0), (.int 0 0), (.ref 27), (.int 9 0), (.int 0 0), (.ref 34)]), #[]⟩
noncomputable def o29_25 (P : Params) : Obj := ⟨(.type "tuple"), none, (.seq #[] 0), #[]⟩
noncomputable def o30_26 (P : Params) : Obj := ⟨.none, none, (.fields #[]), #[]⟩
noncomputable def o31_27 (P : Params) : Obj := ⟨(.type "tuple"), none, (.seq #[(.str (Str.ofString "queue") 207), (.str (Str.ofString "item") 208), (.str (Str.ofString "place") 209)] 0), #[]⟩
noncomputable def o32_28 (P : Params) : Obj := ⟨(.type "tuple"), none, (.seq #[] 0), #[]⟩
noncomputable def o33_29 (P : Params) : Obj := ⟨.none, none, (.func { name := (Str.ofString "heappush"), qualname := (Str.ofString "heappush"), params := (fnParams (stTop 3)), body := (.stmts (fnBody (stTop 3))), scope := (fnScope (stTop 3)), globals := 0, closure := [], defaults := .none, kwdefaults := .none, doc := .none, pyModule := .none, annotations := none, code := .none, closureTuple := .none, builtins := 0 }), #[]⟩
noncomputable def o34_30 (P : Params) : Obj := ⟨(.type "code"), none, (.fields #[(.str (Str.ofString "heappush") 204), (.str (Str.ofString "heappush") 205), (.str (Str.ofString "/claim/cut.py") 206), (.int 9 0), (.int 2 0), (.int 0 0), (.int 0 0), (.int 3 0), (.ref 29), (.bool true), (.int 181 0), (.ref 30), .none, (.ref 31), (.ref 32), (.ref 33), (.int 210 0), (.int 9 0), (.str (Str.ofString "/claim/cut.py") 211)]), #[]⟩
noncomputable def o35_31 (P : Params) : Obj := ⟨(.type "function"), none, (.func { name := (Str.ofString "heappush"), qualname := (Str.ofString "heappush"), params := (fnParams (stTop 3)), body := (.stmts (fnBody (stTop 3))), scope := (fnScope (stTop 3)), globals := 3, closure := [], defaults := .none, kwdefaults := .none, doc := .none, pyModule := (.str (Str.ofString "priority.heaps") 194), annotations := none, code := (.ref 34), closureTuple := .none, builtins := 0 }), #[]⟩
noncomputable def tr3 (P : Params) : BT := (.node (boot_o_0 P) (.node (boot_o_1 P) (.node (o3_23 P) (.node (boot_o_7 P) (.node (o15_6 P) (.node (o31_27 P) .nil .nil) .nil) (.node (o23_17 P) .nil .nil)) (.node (o11_0 P) (.node (o19_10 P) (.node (o35_31 P) .nil .nil) .nil) (.node (o27_21 P) .nil .nil))) (.node (boot_o_5 P) (.node (boot_o_9 P) (.node (o17_8 P) (.node (o33_29 P) .nil .nil) .nil) (.node (o25_19 P) .nil .nil)) (.node (o13_2 P) (.node (o21_12 P) .nil .nil) (.node (o29_25 P) .nil .nil)))) (.node (boot_o_2 P) (.node (boot_o_4 P) (.node (boot_o_8 P) (.node (o16_7 P) (.node (o32_28 P) .nil .nil) .nil) (.node (o24_18 P) .nil .nil)) (.node (o12_24 P) (.node (o20_11 P) .nil .nil) (.node (o28_22 P) .nil .nil))) (.node (boot_o_6 P) (.node (boot_o_10 P) (.node (o18_9 P) (.node (o34_30 P) .nil .nil) .nil) (.node (o26_20 P) .nil .nil)) (.node (o14_3 P) (.node (o22_16 P) .nil .nil) (.node (o30_26 P) .nil .nil)))))
noncomputable def S3 (w : World) (os : OsState) : SharedT := ⟨tr3 w.params, 36, lifeH, ⟨[]⟩, ⟨0, 0, 0, 0⟩, 213, os⟩
noncomputable def o3_32 (P : Params) : Obj := ⟨(.type "dict"), none, (.dict #[⟨(PyData.keyHash P (Str.ofString "__name__")), (.str (Str.ofString "__name__") 165), (.str (Str.ofString "priority.heaps") 194)⟩, ⟨(PyData.keyHash P (Str.ofString "__doc__")), (.str (Str.ofString "__doc__") 166), .none⟩, ⟨(PyData.keyHash P (Str.ofString "__package__")), (.str (Str.ofString "__package__") 167), .none⟩, ⟨(PyData.keyHash P (Str.ofString "__loader__")), (.str (Str.ofString "__loader__") 168), (.builtin "__main__.__loader__#opaque")⟩, ⟨(PyData.keyHash P (Str.ofString "__spec__")), (.str (Str.ofString "__spec__") 169), .none⟩, ⟨(PyData.keyHash P (Str.ofString "__annotations__")), (.str (Str.ofString "__annotations__") 170), (.ref 6)⟩, ⟨(PyData.keyHash P (Str.ofString "__builtins__")), (.str (Str.ofString "__builtins__") 171), (.ref 4)⟩, ⟨(PyData.keyHash P (Str.ofString "__file__")), (.str (Str.ofString "__file__") 173), (.str (Str.ofString "/claim/cut.py") 172)⟩, ⟨(PyData.keyHash P (Str.ofString "__cached__")), (.str (Str.ofString "__cached__") 174), .none⟩, ⟨(PyData.keyHash P (Str.ofString "_wall")), (.str (Str.ofString "_wall") 193), (.ref 21)⟩, ⟨(PyData.keyHash P (Str.ofString "_ahead")), (.str (Str.ofString "_ahead") 203), (.ref 28)⟩, ⟨(PyData.keyHash P (Str.ofString "heappush")), (.str (Str.ofString "heappush") 212), (.ref 35)⟩, ⟨(PyData.keyHash P (Str.ofString "heappop")), (.str (Str.ofString "heappop") 219), (.ref 42)⟩] 13), #[]⟩
noncomputable def o12_33 (P : Params) : Obj := ⟨.none, none, (.fields #[(.int 1 0), (.int 0 0), (.ref 20), (.int 5 0), (.int 0 0), (.ref 27), (.int 9 0), (.int 0 0), (.ref 34), (.int 14 0), (.int 0 0), (.ref 41)]), #[]⟩
noncomputable def o36_34 (P : Params) : Obj := ⟨(.type "tuple"), none, (.seq #[] 0), #[]⟩
noncomputable def o37_35 (P : Params) : Obj := ⟨.none, none, (.fields #[]), #[]⟩
noncomputable def o38_36 (P : Params) : Obj := ⟨(.type "tuple"), none, (.seq #[(.str (Str.ofString "queue") 216)] 0), #[]⟩
noncomputable def o39_37 (P : Params) : Obj := ⟨(.type "tuple"), none, (.seq #[] 0), #[]⟩
noncomputable def o40_38 (P : Params) : Obj := ⟨.none, none, (.func { name := (Str.ofString "heappop"), qualname := (Str.ofString "heappop"), params := (fnParams (stTop 4)), body := (.stmts (fnBody (stTop 4))), scope := (fnScope (stTop 4)), globals := 0, closure := [], defaults := .none, kwdefaults := .none, doc := .none, pyModule := .none, annotations := none, code := .none, closureTuple := .none, builtins := 0 }), #[]⟩
noncomputable def o41_39 (P : Params) : Obj := ⟨(.type "code"), none, (.fields #[(.str (Str.ofString "heappop") 213), (.str (Str.ofString "heappop") 214), (.str (Str.ofString "/claim/cut.py") 215), (.int 14 0), (.int 1 0), (.int 0 0), (.int 0 0), (.int 3 0), (.ref 36), (.bool true), (.int 181 0), (.ref 37), .none, (.ref 38), (.ref 39), (.ref 40), (.int 217 0), (.int 14 0), (.str (Str.ofString "/claim/cut.py") 218)]), #[]⟩
noncomputable def o42_40 (P : Params) : Obj := ⟨(.type "function"), none, (.func { name := (Str.ofString "heappop"), qualname := (Str.ofString "heappop"), params := (fnParams (stTop 4)), body := (.stmts (fnBody (stTop 4))), scope := (fnScope (stTop 4)), globals := 3, closure := [], defaults := .none, kwdefaults := .none, doc := .none, pyModule := (.str (Str.ofString "priority.heaps") 194), annotations := none, code := (.ref 41), closureTuple := .none, builtins := 0 }), #[]⟩
noncomputable def tr4 (P : Params) : BT := (.node (boot_o_0 P) (.node (boot_o_1 P) (.node (o3_32 P) (.node (boot_o_7 P) (.node (o15_6 P) (.node (o31_27 P) .nil .nil) .nil) (.node (o23_17 P) (.node (o39_37 P) .nil .nil) .nil)) (.node (o11_0 P) (.node (o19_10 P) (.node (o35_31 P) .nil .nil) .nil) (.node (o27_21 P) .nil .nil))) (.node (boot_o_5 P) (.node (boot_o_9 P) (.node (o17_8 P) (.node (o33_29 P) .nil .nil) .nil) (.node (o25_19 P) (.node (o41_39 P) .nil .nil) .nil)) (.node (o13_2 P) (.node (o21_12 P) (.node (o37_35 P) .nil .nil) .nil) (.node (o29_25 P) .nil .nil)))) (.node (boot_o_2 P) (.node (boot_o_4 P) (.node (boot_o_8 P) (.node (o16_7 P) (.node (o32_28 P) .nil .nil) .nil) (.node (o24_18 P) (.node (o40_38 P) .nil .nil) .nil)) (.node (o12_33 P) (.node (o20_11 P) (.node (o36_34 P) .nil .nil) .nil) (.node (o28_22 P) .nil .nil))) (.node (boot_o_6 P) (.node (boot_o_10 P) (.node (o18_9 P) (.node (o34_30 P) .nil .nil) .nil) (.node (o26_20 P) (.node (o42_40 P) .nil .nil) .nil)) (.node (o14_3 P) (.node (o22_16 P) (.node (o38_36 P) .nil .nil) .nil) (.node (o30_26 P) .nil .nil)))))
noncomputable def S4 (w : World) (os : OsState) : SharedT := ⟨tr4 w.params, 43, lifeH, ⟨[]⟩, ⟨0, 0, 0, 0⟩, 220, os⟩
noncomputable def o3_41 (P : Params) : Obj := ⟨(.type "dict"), none, (.dict #[⟨(PyData.keyHash P (Str.ofString "__name__")), (.str (Str.ofString "__name__") 165), (.str (Str.ofString "priority.priority") 220)⟩, ⟨(PyData.keyHash P (Str.ofString "__doc__")), (.str (Str.ofString "__doc__") 166), .none⟩, ⟨(PyData.keyHash P (Str.ofString "__package__")), (.str (Str.ofString "__package__") 167), .none⟩, ⟨(PyData.keyHash P (Str.ofString "__loader__")), (.str (Str.ofString "__loader__") 168), (.builtin "__main__.__loader__#opaque")⟩, ⟨(PyData.keyHash P (Str.ofString "__spec__")), (.str (Str.ofString "__spec__") 169), .none⟩, ⟨(PyData.keyHash P (Str.ofString "__annotations__")), (.str (Str.ofString "__annotations__") 170), (.ref 6)⟩, ⟨(PyData.keyHash P (Str.ofString "__builtins__")), (.str (Str.ofString "__builtins__") 171), (.ref 4)⟩, ⟨(PyData.keyHash P (Str.ofString "__file__")), (.str (Str.ofString "__file__") 173), (.str (Str.ofString "/claim/cut.py") 172)⟩, ⟨(PyData.keyHash P (Str.ofString "__cached__")), (.str (Str.ofString "__cached__") 174), .none⟩, ⟨(PyData.keyHash P (Str.ofString "_wall")), (.str (Str.ofString "_wall") 193), (.ref 21)⟩, ⟨(PyData.keyHash P (Str.ofString "_ahead")), (.str (Str.ofString "_ahead") 203), (.ref 28)⟩, ⟨(PyData.keyHash P (Str.ofString "heappush")), (.str (Str.ofString "heappush") 212), (.ref 35)⟩, ⟨(PyData.keyHash P (Str.ofString "heappop")), (.str (Str.ofString "heappop") 219), (.ref 42)⟩] 13), #[]⟩
noncomputable def tr5 (P : Params) : BT := (.node (boot_o_0 P) (.node (boot_o_1 P) (.node (o3_41 P) (.node (boot_o_7 P) (.node (o15_6 P) (.node (o31_27 P) .nil .nil) .nil) (.node (o23_17 P) (.node (o39_37 P) .nil .nil) .nil)) (.node (o11_0 P) (.node (o19_10 P) (.node (o35_31 P) .nil .nil) .nil) (.node (o27_21 P) .nil .nil))) (.node (boot_o_5 P) (.node (boot_o_9 P) (.node (o17_8 P) (.node (o33_29 P) .nil .nil) .nil) (.node (o25_19 P) (.node (o41_39 P) .nil .nil) .nil)) (.node (o13_2 P) (.node (o21_12 P) (.node (o37_35 P) .nil .nil) .nil) (.node (o29_25 P) .nil .nil)))) (.node (boot_o_2 P) (.node (boot_o_4 P) (.node (boot_o_8 P) (.node (o16_7 P) (.node (o32_28 P) .nil .nil) .nil) (.node (o24_18 P) (.node (o40_38 P) .nil .nil) .nil)) (.node (o12_33 P) (.node (o20_11 P) (.node (o36_34 P) .nil .nil) .nil) (.node (o28_22 P) .nil .nil))) (.node (boot_o_6 P) (.node (boot_o_10 P) (.node (o18_9 P) (.node (o34_30 P) .nil .nil) .nil) (.node (o26_20 P) (.node (o42_40 P) .nil .nil) .nil)) (.node (o14_3 P) (.node (o22_16 P) (.node (o38_36 P) .nil .nil) .nil) (.node (o30_26 P) .nil .nil)))))
noncomputable def S5 (w : World) (os : OsState) : SharedT := ⟨tr5 w.params, 43, lifeH, ⟨[]⟩, ⟨0, 0, 0, 0⟩, 222, os⟩
noncomputable def o2_42 (P : Params) : Obj := ⟨.none, none, (.dict #[⟨(PyData.keyHash P (Str.ofString "type.__subclasses__.Exception.0")), (.str (Str.ofString "type.__subclasses__.Exception.0") 238), (.int 52 0)⟩, ⟨(PyData.keyHash P (Str.ofString "type.__subclasses__.Exception.n")), (.str (Str.ofString "type.__subclasses__.Exception.n") 239), (.int 1 0)⟩] 2), #[]⟩
noncomputable def o3_43 (P : Params) : Obj := ⟨(.type "dict"), none, (.dict #[⟨(PyData.keyHash P (Str.ofString "__name__")), (.str (Str.ofString "__name__") 165), (.str (Str.ofString "priority.priority") 220)⟩, ⟨(PyData.keyHash P (Str.ofString "__doc__")), (.str (Str.ofString "__doc__") 166), .none⟩, ⟨(PyData.keyHash P (Str.ofString "__package__")), (.str (Str.ofString "__package__") 167), .none⟩, ⟨(PyData.keyHash P (Str.ofString "__loader__")), (.str (Str.ofString "__loader__") 168), (.builtin "__main__.__loader__#opaque")⟩, ⟨(PyData.keyHash P (Str.ofString "__spec__")), (.str (Str.ofString "__spec__") 169), .none⟩, ⟨(PyData.keyHash P (Str.ofString "__annotations__")), (.str (Str.ofString "__annotations__") 170), (.ref 6)⟩, ⟨(PyData.keyHash P (Str.ofString "__builtins__")), (.str (Str.ofString "__builtins__") 171), (.ref 4)⟩, ⟨(PyData.keyHash P (Str.ofString "__file__")), (.str (Str.ofString "__file__") 173), (.str (Str.ofString "/claim/cut.py") 172)⟩, ⟨(PyData.keyHash P (Str.ofString "__cached__")), (.str (Str.ofString "__cached__") 174), .none⟩, ⟨(PyData.keyHash P (Str.ofString "_wall")), (.str (Str.ofString "_wall") 193), (.ref 21)⟩, ⟨(PyData.keyHash P (Str.ofString "_ahead")), (.str (Str.ofString "_ahead") 203), (.ref 28)⟩, ⟨(PyData.keyHash P (Str.ofString "heappush")), (.str (Str.ofString "heappush") 212), (.ref 35)⟩, ⟨(PyData.keyHash P (Str.ofString "heappop")), (.str (Str.ofString "heappop") 219), (.ref 42)⟩, ⟨(PyData.keyHash P (Str.ofString "PriorityError")), (.str (Str.ofString "PriorityError") 241), (.ref 52)⟩] 14), #[]⟩
noncomputable def o12_44 (P : Params) : Obj := ⟨.none, none, (.fields #[(.int 1 0), (.int 0 0), (.ref 20), (.int 5 0), (.int 0 0), (.ref 27), (.int 9 0), (.int 0 0), (.ref 34), (.int 14 0), (.int 0 0), (.ref 41), (.int 17 0), (.int 0 0), (.ref 48)]), #[]⟩
noncomputable def o43_45 (P : Params) : Obj := ⟨(.type "tuple"), none, (.seq #[(.type "Exception")] 0), #[]⟩
noncomputable def o44_46 (P : Params) : Obj := ⟨(.type "builtin_function_or_method"), none, (.fields #[(.builtin "type.__prepare__"), (.type "type")]), #[]⟩
noncomputable def o45_47 (P : Params) : Obj := ⟨(.type "dict"), none, (.dict #[⟨(PyData.keyHash P (Str.ofString "__module__")), (.str (Str.ofString "__module__") 229), (.str (Str.ofString "priority.priority") 220)⟩, ⟨(PyData.keyHash P (Str.ofString "__qualname__")), (.str (Str.ofString "__qualname__") 231), (.str (Str.ofString "PriorityError") 230)⟩, ⟨(PyData.keyHash P (Str.ofString "__firstlineno__")), (.str (Str.ofString "__firstlineno__") 233), (.int 17 232)⟩, ⟨(PyData.keyHash P (Str.ofString "__static_attributes__")), (.str (Str.ofString "__static_attributes__") 234), (.ref 50)⟩] 4), #[]⟩
noncomputable def o46_48 (P : Params) : Obj := ⟨(.type "tuple"), none, (.seq #[] 0), #[]⟩
noncomputable def o47_49 (P : Params) : Obj := ⟨.none, none, (.fields #[]), #[]⟩
noncomputable def o48_50 (P : Params) : Obj := ⟨(.type "code"), none, (.fields #[(.str (Str.ofString "PriorityError") 224), (.str (Str.ofString "PriorityError") 225), (.str (Str.ofString "/claim/cut.py") 226), (.int 17 0), (.int 0 0), (.int 0 0), (.int 0 0), (.int 0 0), (.ref 46), (.bool false), (.int 181 0), (.ref 47), .none, .none, .none, .none, (.int 227 0), (.int 17 0), (.str (Str.ofString "/claim/cut.py") 228)]), #[]⟩
noncomputable def o49_51 (P : Params) : Obj := ⟨(.type "frame"), none, .plain, #[(some (.ref 48)), (some (.ref 3)), (some (.ref 45)), none, (some (.str (Str.ofString "priority.priority") 220)), none, (some (.ref 0))]⟩
noncomputable def o50_52 (P : Params) : Obj := ⟨(.type "tuple"), none, (.seq #[] 0), #[]⟩
noncomputable def o51_53 (P : Params) : Obj := ⟨(.type "dict"), none, (.dict #[⟨(PyData.keyHash P (Str.ofString "__module__")), (.str (Str.ofString "__module__") 229), (.str (Str.ofString "priority.priority") 220)⟩, ⟨(PyData.keyHash P (Str.ofString "__firstlineno__")), (.str (Str.ofString "__firstlineno__") 233), (.int 17 232)⟩, ⟨(PyData.keyHash P (Str.ofString "__static_attributes__")), (.str (Str.ofString "__static_attributes__") 234), (.ref 50)⟩, ⟨(PyData.keyHash P (Str.ofString "__weakref__")), (.str (Str.ofString "__weakref__") 236), (.ref 53)⟩, ⟨(PyData.keyHash P (Str.ofString "__doc__")), (.str (Str.ofString "__doc__") 237), .none⟩] 3), #[]⟩
noncomputable def o52_54 (P : Params) : Obj := ⟨(.type "type"), none, (.cls { name := (Str.ofString "PriorityError"), bases := [(.type "Exception")], mro := [(.ref 52), (.type "Exception"), (.type "BaseException"), (.type "object")], ns := 51, qualname := (Str.ofString "PriorityError"), hasDict := true, slotNames := [], subclasses := [], abstract := false, collection := none, hasDel := false }), #[(some (.ref 43)), none, (some (.str (Str.ofString "PriorityError") 222)), (some (.str (Str.ofString "PriorityError") 230)), (some (.builtin "Exception.__new__")), (some (.bool true))]⟩
noncomputable def o53_55 (P : Params) : Obj := ⟨(.type "getset_descriptor"), none, (.fields #[(.str (Str.ofString "__weakref__") 235), (.ref 52), (.builtin "ExceptionGroup.__weakref__"), .none]), #[]⟩
noncomputable def o54_56 (P : Params) : Obj := ⟨(.type "super"), none, (.fields #[(.ref 52), (.ref 52), (.ref 52)]), #[]⟩
noncomputable def o55_57 (P : Params) : Obj := ⟨(.type "builtin_function_or_method"), none, (.fields #[(.builtin "object.__init_subclass__"), (.ref 52)]), #[]⟩
noncomputable def tr6 (P : Params) : BT := (.node (boot_o_0 P) (.node (boot_o_1 P) (.node (o3_43 P) (.node (boot_o_7 P) (.node (o15_6 P) (.node (o31_27 P) .nil .nil) (.node (o47_49 P) .nil .nil)) (.node (o23_17 P) (.node (o39_37 P) .nil .nil) (.node (o55_57 P) .nil .nil))) (.node (o11_0 P) (.node (o19_10 P) (.node (o35_31 P) .nil .nil) (.node (o51_53 P) .nil .nil)) (.node (o27_21 P) (.node (o43_45 P) .nil .nil) .nil))) (.node (boot_o_5 P) (.node (boot_o_9 P) (.node (o17_8 P) (.node (o33_29 P) .nil .nil) (.node (o49_51 P) .nil .nil)) (.node (o25_19 P) (.node (o41_39 P) .nil .nil) .nil)) (.node (o13_2 P) (.node (o21_12 P) (.node (o37_35 P) .nil .nil) (.node (o53_55 P) .nil .nil)) (.node (o29_25 P) (.node (o45_47 P) .nil .nil) .nil)))) (.node (o2_42 P) (.node (boot_o_4 P) (.node (boot_o_8 P) (.node (o16_7 P) (.node (o32_28 P) .nil .nil) (.node (o48_50 P) .nil .nil)) (.node (o24_18 P) (.node (o40_38 P) .nil .nil) .nil)) (.node (o12_44 P) (.node (o20_11 P) (.node (o36_34 P) .nil .nil) (.node (o52_54 P) .nil .nil)) (.node (o28_22 P) (.node (o44_46 P) .nil .nil) .nil))) (.node (boot_o_6 P) (.node (boot_o_10 P) (.node (o18_9 P) (.node (o34_30 P) .nil .nil) (.node (o50_52 P) .nil .nil)) (.node (o26_20 P) (.node (o42_40 P) .nil .nil) .nil)) (.node (o14_3 P) (.node (o22_16 P) (.node (o38_36 P) .nil .nil) (.node (o54_56 P) .nil .nil)) (.node (o30_26 P) (.node (o46_48 P) .nil .nil) .nil)))))
noncomputable def S6 (w : World) (os : OsState) : SharedT := ⟨tr6 w.params, 56, lifeH, ⟨[]⟩, ⟨0, 0, 0, 0⟩, 242, os⟩
noncomputable def o3_58 (P : Params) : Obj := ⟨(.type "dict"), none, (.dict #[⟨(PyData.keyHash P (Str.ofString "__name__")), (.str (Str.ofString "__name__") 165), (.str (Str.ofString "priority.priority") 220)⟩, ⟨(PyData.keyHash P (Str.ofString "__doc__")), (.str (Str.ofString "__doc__") 166), .none⟩, ⟨(PyData.keyHash P (Str.ofString "__package__")), (.str (Str.ofString "__package__") 167), .none⟩, ⟨(PyData.keyHash P (Str.ofString "__loader__")), (.str (Str.ofString "__loader__") 168), (.builtin "__main__.__loader__#opaque")⟩, ⟨(PyData.keyHash P (Str.ofString "__spec__")), (.str (Str.ofString "__spec__") 169), .none⟩, ⟨(PyData.keyHash P (Str.ofString "__annotations__")), (.str (Str.ofString "__annotations__") 170), (.ref 6)⟩, ⟨(PyData.keyHash P (Str.ofString "__builtins__")), (.str (Str.ofString "__builtins__") 171), (.ref 4)⟩, ⟨(PyData.keyHash P (Str.ofString "__file__")), (.str (Str.ofString "__file__") 173), (.str (Str.ofString "/claim/cut.py") 172)⟩, ⟨(PyData.keyHash P (Str.ofString "__cached__")), (.str (Str.ofString "__cached__") 174), .none⟩, ⟨(PyData.keyHash P (Str.ofString "_wall")), (.str (Str.ofString "_wall") 193), (.ref 21)⟩, ⟨(PyData.keyHash P (Str.ofString "_ahead")), (.str (Str.ofString "_ahead") 203), (.ref 28)⟩, ⟨(PyData.keyHash P (Str.ofString "heappush")), (.str (Str.ofString "heappush") 212), (.ref 35)⟩, ⟨(PyData.keyHash P (Str.ofString "heappop")), (.str (Str.ofString "heappop") 219), (.ref 42)⟩, ⟨(PyData.keyHash P (Str.ofString "PriorityError")), (.str (Str.ofString "PriorityError") 241), (.ref 52)⟩, ⟨(PyData.keyHash P (Str.ofString "DeadlockError")), (.str (Str.ofString "DeadlockError") 257), (.ref 65)⟩] 15), #[]⟩
noncomputable def o12_59 (P : Params) : Obj := ⟨.none, none, (.fields #[(.int 1 0), (.int 0 0), (.ref 20), (.int 5 0), (.int 0 0), (.ref 27), (.int 9 0), (.int 0 0), (.ref 34), (.int 14 0), (.int 0 0), (.ref 41), (.int 17 0), (.int 0 0), (.ref 48), (.int 19 0), (.int 0 0), (.ref 61)]), #[]⟩
noncomputable def o52_60 (P : Params) : Obj := ⟨(.type "type"), none, (.cls { name := (Str.ofString "PriorityError"), bases := [(.type "Exception")], mro := [(.ref 52), (.type "Exception"), (.type "BaseException"), (.type "object")], ns := 51, qualname := (Str.ofString "PriorityError"), hasDict := true, slotNames := [], subclasses := [(.ref 65)], abstract := false, collection := none, hasDel := false }), #[(some (.ref 43)), none, (some (.str (Str.ofString "PriorityError") 222)), (some (.str (Str.ofString "PriorityError") 230)), (some (.builtin "Exception.__new__")), (some (.bool true))]⟩
noncomputable def o56_61 (P : Params) : Obj := ⟨(.type "tuple"), none, (.seq #[(.ref 52)] 0), #[]⟩
noncomputable def o57_62 (P : Params) : Obj := ⟨(.type "builtin_function_or_method"), none, (.fields #[(.builtin "type.__prepare__"), (.type "type")]), #[]⟩
noncomputable def o58_63 (P : Params) : Obj := ⟨(.type "dict"), none, (.dict #[⟨(PyData.keyHash P (Str.ofString "__module__")), (.str (Str.ofString "__module__") 249), (.str (Str.ofString "priority.priority") 220)⟩, ⟨(PyData.keyHash P (Str.ofString "__qualname__")), (.str (Str.ofString "__qualname__") 251), (.str (Str.ofString "DeadlockError") 250)⟩, ⟨(PyData.keyHash P (Str.ofString "__firstlineno__")), (.str (Str.ofString "__firstlineno__") 253), (.int 19 252)⟩, ⟨(PyData.keyHash P (Str.ofString "__static_attributes__")), (.str (Str.ofString "__static_attributes__") 254), (.ref 63)⟩] 4), #[]⟩
noncomputable def o59_64 (P : Params) : Obj := ⟨(.type "tuple"), none, (.seq #[] 0), #[]⟩
noncomputable def o60_65 (P : Params) : Obj := ⟨.none, none, (.fields #[]), #[]⟩
noncomputable def o61_66 (P : Params) : Obj := ⟨(.type "code"), none, (.fields #[(.str (Str.ofString "DeadlockError") 244), (.str (Str.ofString "DeadlockError") 245), (.str (Str.ofString "/claim/cut.py") 246), (.int 19 0), (.int 0 0), (.int 0 0), (.int 0 0), (.int 0 0), (.ref 59), (.bool false), (.int 181 0), (.ref 60), .none, .none, .none, .none, (.int 247 0), (.int 19 0), (.str (Str.ofString "/claim/cut.py") 248)]), #[]⟩
noncomputable def o62_67 (P : Params) : Obj := ⟨(.type "frame"), none, .plain, #[(some (.ref 61)), (some (.ref 3)), (some (.ref 58)), none, (some (.str (Str.ofString "priority.priority") 220)), none, (some (.ref 0))]⟩
noncomputable def o63_68 (P : Params) : Obj := ⟨(.type "tuple"), none, (.seq #[] 0), #[]⟩
noncomputable def o64_69 (P : Params) : Obj := ⟨(.type "dict"), none, (.dict #[⟨(PyData.keyHash P (Str.ofString "__module__")), (.str (Str.ofString "__module__") 249), (.str (Str.ofString "priority.priority") 220)⟩, ⟨(PyData.keyHash P (Str.ofString "__firstlineno__")), (.str (Str.ofString "__firstlineno__") 253), (.int 19 252)⟩, ⟨(PyData.keyHash P (Str.ofString "__static_attributes__")), (.str (Str.ofString "__static_attributes__") 254), (.ref 63)⟩, ⟨(PyData.keyHash P (Str.ofString "__doc__")), (.str (Str.ofString "__doc__") 255), .none⟩] 2), #[]⟩
noncomputable def o65_70 (P : Params) : Obj := ⟨(.type "type"), none, (.cls { name := (Str.ofString "DeadlockError"), bases := [(.ref 52)], mro := [(.ref 65), (.ref 52), (.type "Exception"), (.type "BaseException"), (.type "object")], ns := 64, qualname := (Str.ofString "DeadlockError"), hasDict := true, slotNames := [], subclasses := [], abstract := false, collection := none, hasDel := false }), #[(some (.ref 56)), none, (some (.str (Str.ofString "DeadlockError") 242)), (some (.str (Str.ofString "DeadlockError") 250)), (some (.builtin "Exception.__new__")), (some (.bool true))]⟩
noncomputable def o66_71 (P : Params) : Obj := ⟨(.type "super"), none, (.fields #[(.ref 65), (.ref 65), (.ref 65)]), #[]⟩
noncomputable def o67_72 (P : Params) : Obj := ⟨(.type "builtin_function_or_method"), none, (.fields #[(.builtin "object.__init_subclass__"), (.ref 65)]), #[]⟩
noncomputable def tr7 (P : Params) : BT := (.node (boot_o_0 P) (.node (boot_o_1 P) (.node (o3_58 P) (.node (boot_o_7 P) (.node (o15_6 P) (.node (o31_27 P) (.node (o63_68 P) .nil .nil) .nil) (.node (o47_49 P) .nil .nil)) (.node (o23_17 P) (.node (o39_37 P) .nil .nil) (.node (o55_57 P) .nil .nil))) (.node (o11_0 P) (.node (o19_10 P) (.node (o35_31 P) (.node (o67_72 P) .nil .nil) .nil) (.node (o51_53 P) .nil .nil)) (.node (o27_21 P) (.node (o43_45 P) .nil .nil) (.node (o59_64 P) .nil .nil)))) (.node (boot_o_5 P) (.node (boot_o_9 P) (.node (o17_8 P) (.node (o33_29 P) (.node (o65_70 P) .nil .nil) .nil) (.node (o49_51 P) .nil .nil)) (.node (o25_19 P) (.node (o41_39 P) .nil .nil) (.node (o57_62 P) .nil .nil))) (.node (o13_2 P) (.node (o21_12 P) (.node (o37_35 P) .nil .nil) (.node (o53_55 P) .nil .nil)) (.node (o29_25 P) (.node (o45_47 P) .nil .nil) (.node (o61_66 P) .nil .nil))))) (.node (o2_42 P) (.node (boot_o_4 P) (.node (boot_o_8 P) (.node (o16_7 P) (.node (o32_28 P) (.node (o64_69 P) .nil .nil) .nil) (.node (o48_50 P) .nil .nil)) (.node (o24_18 P) (.node (o40_38 P) .nil .nil) (.node (o56_61 P) .nil .nil))) (.node (o12_59 P) (.node (o20_11 P) (.node (o36_34 P) .nil .nil) (.node (o52_60 P) .nil .nil)) (.node (o28_22 P) (.node (o44_46 P) .nil .nil) (.node (o60_65 P) .nil .nil)))) (.node (boot_o_6 P) (.node (boot_o_10 P) (.node (o18_9 P) (.node (o34_30 P) (.node (o66_71 P) .nil .nil) .nil) (.node (o50_52 P) .nil .nil)) (.node (o26_20 P) (.node (o42_40 P) .nil .nil) (.node (o58_63 P) .nil .nil))) (.node (o14_3 P) (.node (o22_16 P) (.node (o38_36 P) .nil .nil) (.node (o54_56 P) .nil .nil)) (.node (o30_26 P) (.node (o46_48 P) .nil .nil) (.node (o62_67 P) .nil .nil))))))
noncomputable def S7 (w : World) (os : OsState) : SharedT := ⟨tr7 w.params, 68, lifeH, ⟨[]⟩, ⟨0, 0, 0, 0⟩, 258, os⟩
noncomputable def o3_73 (P : Params) : Obj := ⟨(.type "dict"), none, (.dict #[⟨(PyData.keyHash P (Str.ofString "__name__")), (.str (Str.ofString "__name__") 165), (.str (Str.ofString "priority.priority") 220)⟩, ⟨(PyData.keyHash P (Str.ofString "__doc__")), (.str (Str.ofString "__doc__") 166), .none⟩, ⟨(PyData.keyHash P (Str.ofString "__package__")), (.str (Str.ofString "__package__") 167), .none⟩, ⟨(PyData.keyHash P (Str.ofString "__loader__")), (.str (Str.ofString "__loader__") 168), (.builtin "__main__.__loader__#opaque")⟩, ⟨(PyData.keyHash P (Str.ofString "__spec__")), (.str (Str.ofString "__spec__") 169), .none⟩, ⟨(PyData.keyHash P (Str.ofString "__annotations__")), (.str (Str.ofString "__annotations__") 170), (.ref 6)⟩, ⟨(PyData.keyHash P (Str.ofString "__builtins__")), (.str (Str.ofString "__builtins__") 171), (.ref 4)⟩, ⟨(PyData.keyHash P (Str.ofString "__file__")), (.str (Str.ofString "__file__") 173), (.str (Str.ofString "/claim/cut.py") 172)⟩, ⟨(PyData.keyHash P (Str.ofString "__cached__")), (.str (Str.ofString "__cached__") 174), .none⟩, ⟨(PyData.keyHash P (Str.ofString "_wall")), (.str (Str.ofString "_wall") 193), (.ref 21)⟩, ⟨(PyData.keyHash P (Str.ofString "_ahead")), (.str (Str.ofString "_ahead") 203), (.ref 28)⟩, ⟨(PyData.keyHash P (Str.ofString "heappush")), (.str (Str.ofString "heappush") 212), (.ref 35)⟩, ⟨(PyData.keyHash P (Str.ofString "heappop")), (.str (Str.ofString "heappop") 219), (.ref 42)⟩, ⟨(PyData.keyHash P (Str.ofString "PriorityError")), (.str (Str.ofString "PriorityError") 241), (.ref 52)⟩, ⟨(PyData.keyHash P (Str.ofString "DeadlockError")), (.str (Str.ofString "DeadlockError") 257), (.ref 65)⟩, ⟨(PyData.keyHash P (Str.ofString "PriorityLoop")), (.str (Str.ofString "PriorityLoop") 273), (.ref 77)⟩] 16), #[]⟩
noncomputable def o12_74 (P : Params) : Obj := ⟨.none, none, (.fields #[(.int 1 0), (.int 0 0), (.ref 20), (.int 5 0), (.int 0 0), (.ref 27), (.int 9 0), (.int 0 0), (.ref 34), (.int 14 0), (.int 0 0), (.ref 41), (.int 17 0), (.int 0 0), (.ref 48), (.int 19 0), (.int 0 0), (.ref 61), (.int 21 0), (.int 0 0), (.ref 73)]), #[]⟩
noncomputable def o52_75 (P : Params) : Obj := ⟨(.type "type"), none, (.cls { name := (Str.ofString "PriorityError"), bases := [(.type "Exception")], mro := [(.ref 52), (.type "Exception"), (.type "BaseException"), (.type "object")], ns := 51, qualname := (Str.ofString "PriorityError"), hasDict := true, slotNames := [], subclasses := [(.ref 65), (.ref 77)], abstract := false, collection := none, hasDel := false }), #[(some (.ref 43)), none, (some (.str (Str.ofString "PriorityError") 222)), (some (.str (Str.ofString "PriorityError") 230)), (some (.builtin "Exception.__new__")), (some (.bool true))]⟩
noncomputable def o68_76 (P : Params) : Obj := ⟨(.type "tuple"), none, (.seq #[(.ref 52)] 0), #[]⟩
noncomputable def o69_77 (P : Params) : Obj := ⟨(.type "builtin_function_or_method"), none, (.fields #[(.builtin "type.__prepare__"), (.type "type")]), #[]⟩
noncomputable def o70_78 (P : Params) : Obj := ⟨(.type "dict"), none, (.dict #[⟨(PyData.keyHash P (Str.ofString "__module__")), (.str (Str.ofString "__module__") 265), (.str (Str.ofString "priority.priority") 220)⟩, ⟨(PyData.keyHash P (Str.ofString "__qualname__")), (.str (Str.ofString "__qualname__") 267), (.str (Str.ofString "PriorityLoop") 266)⟩, ⟨(PyData.keyHash P (Str.ofString "__firstlineno__")), (.str (Str.ofString "__firstlineno__") 269), (.int 21 268)⟩, ⟨(PyData.keyHash P (Str.ofString "__static_attributes__")), (.str (Str.ofString "__static_attributes__") 270), (.ref 75)⟩] 4), #[]⟩
noncomputable def o71_79 (P : Params) : Obj := ⟨(.type "tuple"), none, (.seq #[] 0), #[]⟩
noncomputable def o72_80 (P : Params) : Obj := ⟨.none, none, (.fields #[]), #[]⟩
noncomputable def o73_81 (P : Params) : Obj := ⟨(.type "code"), none, (.fields #[(.str (Str.ofString "PriorityLoop") 260), (.str (Str.ofString "PriorityLoop") 261), (.str (Str.ofString "/claim/cut.py") 262), (.int 21 0), (.int 0 0), (.int 0 0), (.int 0 0), (.int 0 0), (.ref 71), (.bool false), (.int 181 0), (.ref 72), .none, .none, .none, .none, (.int 263 0), (.int 21 0), (.str (Str.ofString "/claim/cut.py") 264)]), #[]⟩
noncomputable def o74_82 (P : Params) : Obj := ⟨(.type "frame"), none, .plain, #[(some (.ref 73)), (some (.ref 3)), (some (.ref 70)), none, (some (.str (Str.ofString "priority.priority") 220)), none, (some (.ref 0))]⟩
noncomputable def o75_83 (P : Params) : Obj := ⟨(.type "tuple"), none, (.seq #[] 0), #[]⟩
noncomputable def o76_84 (P : Params) : Obj := ⟨(.type "dict"), none, (.dict #[⟨(PyData.keyHash P (Str.ofString "__module__")), (.str (Str.ofString "__module__") 265), (.str (Str.ofString "priority.priority") 220)⟩, ⟨(PyData.keyHash P (Str.ofString "__firstlineno__")), (.str (Str.ofString "__firstlineno__") 269), (.int 21 268)⟩, ⟨(PyData.keyHash P (Str.ofString "__static_attributes__")), (.str (Str.ofString "__static_attributes__") 270), (.ref 75)⟩, ⟨(PyData.keyHash P (Str.ofString "__doc__")), (.str (Str.ofString "__doc__") 271), .none⟩] 2), #[]⟩
noncomputable def o77_85 (P : Params) : Obj := ⟨(.type "type"), none, (.cls { name := (Str.ofString "PriorityLoop"), bases := [(.ref 52)], mro := [(.ref 77), (.ref 52), (.type "Exception"), (.type "BaseException"), (.type "object")], ns := 76, qualname := (Str.ofString "PriorityLoop"), hasDict := true, slotNames := [], subclasses := [], abstract := false, collection := none, hasDel := false }), #[(some (.ref 68)), none, (some (.str (Str.ofString "PriorityLoop") 258)), (some (.str (Str.ofString "PriorityLoop") 266)), (some (.builtin "Exception.__new__")), (some (.bool true))]⟩
noncomputable def o78_86 (P : Params) : Obj := ⟨(.type "super"), none, (.fields #[(.ref 77), (.ref 77), (.ref 77)]), #[]⟩
noncomputable def o79_87 (P : Params) : Obj := ⟨(.type "builtin_function_or_method"), none, (.fields #[(.builtin "object.__init_subclass__"), (.ref 77)]), #[]⟩
noncomputable def tr8 (P : Params) : BT := (.node (boot_o_0 P) (.node (boot_o_1 P) (.node (o3_73 P) (.node (boot_o_7 P) (.node (o15_6 P) (.node (o31_27 P) (.node (o63_68 P) .nil .nil) .nil) (.node (o47_49 P) (.node (o79_87 P) .nil .nil) .nil)) (.node (o23_17 P) (.node (o39_37 P) (.node (o71_79 P) .nil .nil) .nil) (.node (o55_57 P) .nil .nil))) (.node (o11_0 P) (.node (o19_10 P) (.node (o35_31 P) (.node (o67_72 P) .nil .nil) .nil) (.node (o51_53 P) .nil .nil)) (.node (o27_21 P) (.node (o43_45 P) (.node (o75_83 P) .nil .nil) .nil) (.node (o59_64 P) .nil .nil)))) (.node (boot_o_5 P) (.node (boot_o_9 P) (.node (o17_8 P) (.node (o33_29 P) (.node (o65_70 P) .nil .nil) .nil) (.node (o49_51 P) .nil .nil)) (.node (o25_19 P) (.node (o41_39 P) (.node (o73_81 P) .nil .nil) .nil) (.node (o57_62 P) .nil .nil))) (.node (o13_2 P) (.node (o21_12 P) (.node (o37_35 P) (.node (o69_77 P) .nil .nil) .nil) (.node (o53_55 P) .nil .nil)) (.node (o29_25 P) (.node (o45_47 P) (.node (o77_85 P) .nil .nil) .nil) (.node (o61_66 P) .nil .nil))))) (.node (o2_42 P) (.node (boot_o_4 P) (.node (boot_o_8 P) (.node (o16_7 P) (.node (o32_28 P) (.node (o64_69 P) .nil .nil) .nil) (.node (o48_50 P) .nil .nil)) (.node (o24_18 P) (.node (o40_38 P) (.node (o72_80 P) .nil .nil) .nil) (.node (o56_61 P) .nil .nil))) (.node (o12_74 P) (.node (o20_11 P) (.node (o36_34 P) (.node (o68_76 P) .nil .nil) .nil) (.node (o52_75 P) .nil .nil)) (.node (o28_22 P) (.node (o44_46 P) (.node (o76_84 P) .nil .nil) .nil) (.node (o60_65 P) .nil .nil)))) (.node (boot_o_6 P) (.node (boot_o_10 P) (.node (o18_9 P) (.node (o34_30 P) (.node (o66_71 P) .nil .nil) .nil) (.node (o50_52 P) .nil .nil)) (.node (o26_20 P) (.node (o42_40 P) (.node (o74_82 P) .nil .nil) .nil) (.node (o58_63 P) .nil .nil))) (.node (o14_3 P) (.node (o22_16 P) (.node (o38_36 P) (.node (o70_78 P) .nil .nil) .nil) (.node (o54_56 P) .nil .nil)) (.node (o30_26 P) (.node (o46_48 P) (.node (o78_86 P) .nil .nil) .nil) (.node (o62_67 P) .nil .nil))))))
noncomputable def S8 (w : World) (os : OsState) : SharedT := ⟨tr8 w.params, 80, lifeH, ⟨[]⟩, ⟨0, 0, 0, 0⟩, 274, os⟩
noncomputable def o3_88 (P : Params) : Obj := ⟨(.type "dict"), none, (.dict #[⟨(PyData.keyHash P (Str.ofString "__name__")), (.str (Str.ofString "__name__") 165), (.str (Str.ofString "priority.priority") 220)⟩, ⟨(PyData.keyHash P (Str.ofString "__doc__")), (.str (Str.ofString "__doc__") 166), .none⟩, ⟨(PyData.keyHash P (Str.ofString "__package__")), (.str (Str.ofString "__package__") 167), .none⟩, ⟨(PyData.keyHash P (Str.ofString "__loader__")), (.str (Str.ofString "__loader__") 168), (.builtin "__main__.__loader__#opaque")⟩, ⟨(PyData.keyHash P (Str.ofString "__spec__")), (.str (Str.ofString "__spec__") 169), .none⟩, ⟨(PyData.keyHash P (Str.ofString "__annotations__")), (.str (Str.ofString "__annotations__") 170), (.ref 6)⟩, ⟨(PyData.keyHash P (Str.ofString "__builtins__")), (.str (Str.ofString "__builtins__") 171), (.ref 4)⟩, ⟨(PyData.keyHash P (Str.ofString "__file__")), (.str (Str.ofString "__file__") 173), (.str (Str.ofString "/claim/cut.py") 172)⟩, ⟨(PyData.keyHash P (Str.ofString "__cached__")), (.str (Str.ofString "__cached__") 174), .none⟩, ⟨(PyData.keyHash P (Str.ofString "_wall")), (.str (Str.ofString "_wall") 193), (.ref 21)⟩, ⟨(PyData.keyHash P (Str.ofString "_ahead")), (.str (Str.ofString "_ahead") 203), (.ref 28)⟩, ⟨(PyData.keyHash P (Str.ofString "heappush")), (.str (Str.ofString "heappush") 212), (.ref 35)⟩, ⟨(PyData.keyHash P (Str.ofString "heappop")), (.str (Str.ofString "heappop") 219), (.ref 42)⟩, ⟨(PyData.keyHash P (Str.ofString "PriorityError")), (.str (Str.ofString "PriorityError") 241), (.ref 52)⟩, ⟨(PyData.keyHash P (Str.ofString "DeadlockError")), (.str (Str.ofString "DeadlockError") 257), (.ref 65)⟩, ⟨(PyData.keyHash P (Str.ofString "PriorityLoop")), (.str (Str.ofString "PriorityLoop") 273), (.ref 77)⟩, ⟨(PyData.keyHash P (Str.ofString "DuplicateStreamError")), (.str (Str.ofString "DuplicateStreamError") 289), (.ref 89)⟩] 17), #[]⟩
noncomputable def o12_89 (P : Params) : Obj := ⟨.none, none, (.fields #[(.int 1 0), (.int 0 0), (.ref 20), (.int 5 0), (.int 0 0), (.ref 27), (.int 9 0), (.int 0 0), (.ref 34), (.int 14 0), (.int 0 0), (.ref 41), (.int 17 0), (.int 0 0), (.ref 48), (.int 19 0), (.int 0 0), (.ref 61), (.int 21 0), (.int 0 0), (.ref 73), (.int 23 0), (.int 0 0), (.ref 85)]), #[]⟩
noncomputable def o52_90 (P : Params) : Obj := ⟨(.type "type"), none, (.cls { name := (Str.ofString "PriorityError"), bases := [(.type "Exception")], mro := [(.ref 52), (.type "Exception"), (.type "BaseException"), (.type "object")], ns := 51, qualname := (Str.ofString "PriorityError"), hasDict := true, slotNames := [], subclasses := [(.ref 65), (.ref 77), (.ref 89)], abstract := false, collection := none, hasDel := false }), #[(some (.ref 43)), none, (some (.str (Str.ofString "PriorityError") 222)), (some (.str (Str.ofString "PriorityError") 230)), (some (.builtin "Exception.__new__")), (some (.bool true))]⟩
noncomputable def o80_91 (P : Params) : Obj := ⟨(.type "tuple"), none, (.seq #[(.ref 52)] 0), #[]⟩
noncomputable def o81_92 (P : Params) : Obj := ⟨(.type "builtin_function_or_method"), none, (.fields #[(.builtin "type.__prepare__"), (.type "type")]), #[]⟩
noncomputable def o82_93 (P : Params) : Obj := ⟨(.type "dict"), none, (.dict #[⟨(PyData.keyHash P (Str.ofString "__module__")), (.str (Str.ofString "__module__") 281), (.str (Str.ofString "priority.priority") 220)⟩, ⟨(PyData.keyHash P (Str.ofString "__qualname__")), (.str (Str.ofString "__qualname__") 283), (.str (Str.ofString "DuplicateStreamError") 282)⟩, ⟨(PyData.keyHash P (Str.ofString "__firstlineno__")), (.str (Str.ofString "__firstlineno__") 285), (.int 23 284)⟩, ⟨(PyData.keyHash P (Str.ofString "__static_attributes__")), (.str (Str.ofString "__static_attributes__") 286), (.ref 87)⟩] 4), #[]⟩
noncomputable def o83_94 (P : Params) : Obj := ⟨(.type "tuple"), none, (.seq #[] 0), #[]⟩
noncomputable def o84_95 (P : Params) : Obj := ⟨.none, none, (.fields #[]), #[]⟩
noncomputable def o85_96 (P : Params) : Obj := ⟨(.type "code"), none, (.fields #[(.str (Str.ofString "DuplicateStreamError") 276), (.str (Str.ofString "DuplicateStreamError") 277), (.str (Str.ofString "/claim/cut.py") 278), (.int 23 0), (.int 0 0), (.int 0 0), (.int 0 0), (.int 0 0), (.ref 83), (.bool false), (.int 181 0), (.ref 84), .none, .none, .none, .none, (.int 279 0), (.int 23 0), (.str (Str.ofString "/claim/cut.py") 280)]), #[]⟩
noncomputable def o86_97 (P : Params) : Obj := ⟨(.type "frame"), none, .plain, #[(some (.ref 85)), (some (.ref 3)), (some (.ref 82)), none, (some (.str (Str.ofString "priority.priority") 220)), none, (some (.ref 0))]⟩
noncomputable def o87_98 (P : Params) : Obj := ⟨(.type "tuple"), none, (.seq #[] 0), #[]⟩
noncomputable def o88_99 (P : Params) : Obj := ⟨(.type "dict"), none, (.dict #[⟨(PyData.keyHash P (Str.ofString "__module__")), (.str (Str.ofString "__module__") 281), (.str (Str.ofString "priority.priority") 220)⟩, ⟨(PyData.keyHash P (Str.ofString "__firstlineno__")), (.str (Str.ofString "__firstlineno__") 285), (.int 23 284)⟩, ⟨(PyData.keyHash P (Str.ofString "__static_attributes__")), (.str (Str.ofString "__static_attributes__") 286), (.ref 87)⟩, ⟨(PyData.keyHash P (Str.ofString "__doc__")), (.str (Str.ofString "__doc__") 287), .none⟩] 2), #[]⟩
noncomputable def o89_100 (P : Params) : Obj := ⟨(.type "type"), none, (.cls { name := (Str.ofString "DuplicateStreamError"), bases := [(.ref 52)], mro := [(.ref 89), (.ref 52), (.type "Exception"), (.type "BaseException"), (.type "object")], ns := 88, qualname := (Str.ofString "DuplicateStreamError"), hasDict := true, slotNames := [], subclasses := [], abstract := false, collection := none, hasDel := false }), #[(some (.ref 80)), none, (some (.str (Str.ofString "DuplicateStreamError") 274)), (some (.str (Str.ofString "DuplicateStreamError") 282)), (some (.builtin "Exception.__new__")), (some (.bool true))]⟩
noncomputable def o90_101 (P : Params) : Obj := ⟨(.type "super"), none, (.fields #[(.ref 89), (.ref 89), (.ref 89)]), #[]⟩
noncomputable def o91_102 (P : Params) : Obj := ⟨(.type "builtin_function_or_method"), none, (.fields #[(.builtin "object.__init_subclass__"), (.ref 89)]), #[]⟩
noncomputable def tr9 (P : Params) : BT := (.node (boot_o_0 P) (.node (boot_o_1 P) (.node (o3_88 P) (.node (boot_o_7 P) (.node (o15_6 P) (.node (o31_27 P) (.node (o63_68 P) .nil .nil) .nil) (.node (o47_49 P) (.node (o79_87 P) .nil .nil) .nil)) (.node (o23_17 P) (.node (o39_37 P) (.node (o71_79 P) .nil .nil) .nil) (.node (o55_57 P) (.node (o87_98 P) .nil .nil) .nil))) (.node (o11_0 P) (.node (o19_10 P) (.node (o35_31 P) (.node (o67_72 P) .nil .nil) .nil) (.node (o51_53 P) (.node (o83_94 P) .nil .nil) .nil)) (.node (o27_21 P) (.node (o43_45 P) (.node (o75_83 P) .nil .nil) .nil) (.node (o59_64 P) (.node (o91_102 P) .nil .nil) .nil)))) (.node (boot_o_5 P) (.node (boot_o_9 P) (.node (o17_8 P) (.node (o33_29 P) (.node (o65_70 P) .nil .nil) .nil) (.node (o49_51 P) (.node (o81_92 P) .nil .nil) .nil)) (.node (o25_19 P) (.node (o41_39 P) (.node (o73_81 P) .nil .nil) .nil) (.node (o57_62 P) (.node (o89_100 P) .nil .nil) .nil))) (.node (o13_2 P) (.node (o21_12 P) (.node (o37_35 P) (.node (o69_77 P) .nil .nil) .nil) (.node (o53_55 P) (.node (o85_96 P) .nil .nil) .nil)) (.node (o29_25 P) (.node (o45_47 P) (.node (o77_85 P) .nil .nil) .nil) (.node (o61_66 P) .nil .nil))))) (.node (o2_42 P) (.node (boot_o_4 P) (.node (boot_o_8 P) (.node (o16_7 P) (.node (o32_28 P) (.node (o64_69 P) .nil .nil) .nil) (.node (o48_50 P) (.node (o80_91 P) .nil .nil) .nil)) (.node (o24_18 P) (.node (o40_38 P) (.node (o72_80 P) .nil .nil) .nil) (.node (o56_61 P) (.node (o88_99 P) .nil .nil) .nil))) (.node (o12_89 P) (.node (o20_11 P) (.node (o36_34 P) (.node (o68_76 P) .nil .nil) .nil) (.node (o52_90 P) (.node (o84_95 P) .nil .nil) .nil)) (.node (o28_22 P) (.node (o44_46 P) (.node (o76_84 P) .nil .nil) .nil) (.node (o60_65 P) .nil .nil)))) (.node (boot_o_6 P) (.node (boot_o_10 P) (.node (o18_9 P) (.node (o34_30 P) (.node (o66_71 P) .nil .nil) .nil) (.node (o50_52 P) (.node (o82_93 P) .nil .nil) .nil)) (.node (o26_20 P) (.node (o42_40 P) (.node (o74_82 P) .nil .nil) .nil) (.node (o58_63 P) (.node (o90_101 P) .nil .nil) .nil))) (.node (o14_3 P) (.node (o22_16 P) (.node (o38_36 P) (.node (o70_78 P) .nil .nil) .nil) (.node (o54_56 P) (.node (o86_97 P) .nil .nil) .nil)) (.node (o30_26 P) (.node (o46_48 P) (.node (o78_86 P) .nil .nil) .nil) (.node (o62_67 P) .nil .nil))))))
noncomputable def S9 (w : World) (os : OsState) : SharedT := ⟨tr9 w.params, 92, lifeH, ⟨[]⟩, ⟨0, 0, 0, 0⟩, 290, os⟩
noncomputable def o2_103 (P : Params) : Obj := ⟨.none, none, (.dict #[⟨(PyData.keyHash P (Str.ofString "type.__subclasses__.Exception.0")), (.str (Str.ofString "type.__subclasses__.Exception.0") 238), (.int 52 0)⟩, ⟨(PyData.keyHash P (Str.ofString "type.__subclasses__.Exception.n")), (.str (Str.ofString "type.__subclasses__.Exception.n") 239), (.int 1 0)⟩, ⟨(PyData.keyHash P (Str.ofString "type.__subclasses__.KeyError.0")), (.str (Str.ofString "type.__subclasses__.KeyError.0") 306), (.int 101 0)⟩, ⟨(PyData.keyHash P (Str.ofString "type.__subclasses__.KeyError.n")), (.str (Str.ofString "type.__subclasses__.KeyError.n") 307), (.int 1 0)⟩] 4), #[]⟩
noncomputable def o3_104 (P : Params) : Obj := ⟨(.type "dict"), none, (.dict #[⟨(PyData.keyHash P (Str.ofString "__name__")), (.str (Str.ofString "__name__") 165), (.str (Str.ofString "priority.priority") 220)⟩, ⟨(PyData.keyHash P (Str.ofString "__doc__")), (.str (Str.ofString "__doc__") 166), .none⟩, ⟨(PyData.keyHash P (Str.ofString "__package__")), (.str (Str.ofString "__package__") 167), .none⟩, ⟨(PyData.keyHash P (Str.ofString "__loader__")), (.str (Str.ofString "__loader__") 168), (.builtin "__main__.__loader__#opaque")⟩, ⟨(PyData.keyHash P (Str.ofString "__spec__")), (.str (Str.ofString "__spec__") 169), .none⟩, ⟨(PyData.keyHash P (Str.ofString "__annotations__")), (.str (Str.ofString "__annotations__") 170), (.ref 6)⟩, ⟨(PyData.keyHash P (Str.ofString "__builtins__")), (.str (Str.ofString "__builtins__") 171), (.ref 4)⟩, ⟨(PyData.keyHash P (Str.ofString "__file__")), (.str (Str.ofString "__file__") 173), (.str (Str.ofString "/claim/cut.py") 172)⟩, ⟨(PyData.keyHash P (Str.ofString "__cached__")), (.str (Str.ofString "__cached__") 174), .none⟩, ⟨(PyData.keyHash P (Str.ofString "_wall")), (.str (Str.ofString "_wall") 193), (.ref 21)⟩, ⟨(PyData.keyHash P (Str.ofString "_ahead")), (.str (Str.ofString "_ahead") 203), (.ref 28)⟩, ⟨(PyData.keyHash P (Str.ofString "heappush")), (.str (Str.ofString "heappush") 212), (.ref 35)⟩, ⟨(PyData.keyHash P (Str.ofString "heappop")), (.str (Str.ofString "heappop") 219), (.ref 42)⟩, ⟨(PyData.keyHash P (Str.ofString "PriorityError")), (.str (Str.ofString "PriorityError") 241), (.ref 52)⟩, ⟨(PyData.keyHash P (Str.ofString "DeadlockError")), (.str (Str.ofString "DeadlockError") 257), (.ref 65)⟩, ⟨(PyData.keyHash P (Str.ofString "PriorityLoop")), (.str (Str.ofString "PriorityLoop") 273), (.ref 77)⟩, ⟨(PyData.keyHash P (Str.ofString "DuplicateStreamError")), (.str (Str.ofString "DuplicateStreamError") 289), (.ref 89)⟩, ⟨(PyData.keyHash P (Str.ofString "MissingStreamError")), (.str (Str.ofString "MissingStreamError") 309), (.ref 101)⟩] 18), #[]⟩
noncomputable def o12_105 (P : Params) : Obj := ⟨.none, none, (.fields #[(.int 1 0), (.int 0 0), (.ref 20), (.int 5 0), (.int 0 0), (.ref 27), (.int 9 0), (.int 0 0), (.ref 34), (.int 14 0), (.int 0 0), (.ref 41), (.int 17 0), (.int 0 0), (.ref 48), (.int 19 0), (.int 0 0), (.ref 61), (.int 21 0), (.int 0 0), (.ref 73), (.int 23 0), (.int 0 0), (.ref 85), (.int 25 0), (.int 0 0), (.ref 97)]), #[]⟩
noncomputable def o52_106 (P : Params) : Obj := ⟨(.type "type"), none, (.cls { name := (Str.ofString "PriorityError"), bases := [(.type "Exception")], mro := [(.ref 52), (.type "Exception"), (.type "BaseException"), (.type "object")], ns := 51, qualname := (Str.ofString "PriorityError"), hasDict := true, slotNames := [], subclasses := [(.ref 65), (.ref 77), (.ref 89), (.ref 101)], abstract := false, collection := none, hasDel := false }), #[(some (.ref 43)), none, (some (.str (Str.ofString "PriorityError") 222)), (some (.str (Str.ofString "PriorityError") 230)), (some (.builtin "Exception.__new__")), (some (.bool true))]⟩
noncomputable def o92_107 (P : Params) : Obj := ⟨(.type "tuple"), none, (.seq #[(.type "KeyError"), (.ref 52)] 0), #[]⟩
noncomputable def o93_108 (P : Params) : Obj := ⟨(.type "builtin_function_or_method"), none, (.fields #[(.builtin "type.__prepare__"), (.type "type")]), #[]⟩
noncomputable def o94_109 (P : Params) : Obj := ⟨(.type "dict"), none, (.dict #[⟨(PyData.keyHash P (Str.ofString "__module__")), (.str (Str.ofString "__module__") 297), (.str (Str.ofString "priority.priority") 220)⟩, ⟨(PyData.keyHash P (Str.ofString "__qualname__")), (.str (Str.ofString "__qualname__") 299), (.str (Str.ofString "MissingStreamError") 298)⟩, ⟨(PyData.keyHash P (Str.ofString "__firstlineno__")), (.str (Str.ofString "__firstlineno__") 301), (.int 25 300)⟩, ⟨(PyData.keyHash P (Str.ofString "__static_attributes__")), (.str (Str.ofString "__static_attributes__") 302), (.ref 99)⟩] 4), #[]⟩
noncomputable def o95_110 (P : Params) : Obj := ⟨(.type "tuple"), none, (.seq #[] 0), #[]⟩
noncomputable def o96_111 (P : Params) : Obj := ⟨.none, none, (.fields #[]), #[]⟩
noncomputable def o97_112 (P : Params) : Obj := ⟨(.type "code"), none, (.fields #[(.str (Str.ofString "MissingStreamError") 292), (.str (Str.ofString "MissingStreamError") 293), (.str (Str.ofString "/claim/cut.py") 294), (.int 25 0), (.int 0 0), (.int 0 0), (.int 0 0), (.int 0 0), (.ref 95), (.bool false), (.int 181 0), (.ref 96), .none, .none, .none, .none, (.int 295 0), (.int 25 0), (.str (Str.ofString "/claim/cut.py") 296)]), #[]⟩
noncomputable def o98_113 (P : Params) : Obj := ⟨(.type "frame"), none, .plain, #[(some (.ref 97)), (some (.ref 3)), (some (.ref 94)), none, (some (.str (Str.ofString "priority.priority") 220)), none, (some (.ref 0))]⟩
noncomputable def o99_114 (P : Params) : Obj := ⟨(.type "tuple"), none, (.seq #[] 0), #[]⟩
noncomputable def o100_115 (P : Params) : Obj := ⟨(.type "dict"), none, (.dict #[⟨(PyData.keyHash P (Str.ofString "__module__")), (.str (Str.ofString "__module__") 297), (.str (Str.ofString "priority.priority") 220)⟩, ⟨(PyData.keyHash P (Str.ofString "__firstlineno__")), (.str (Str.ofString "__firstlineno__") 301), (.int 25 300)⟩, ⟨(PyData.keyHash P (Str.ofString "__static_attributes__")), (.str (Str.ofString "__static_attributes__") 302), (.ref 99)⟩, ⟨(PyData.keyHash P (Str.ofString "__weakref__")), (.str (Str.ofString "__weakref__") 304), (.ref 102)⟩, ⟨(PyData.keyHash P (Str.ofString "__doc__")), (.str (Str.ofString "__doc__") 305), .none⟩] 3), #[]⟩
noncomputable def o101_116 (P : Params) : Obj := ⟨(.type "type"), none, (.cls { name := (Str.ofString "MissingStreamError"), bases := [(.type "KeyError"), (.ref 52)], mro := [(.ref 101), (.type "KeyError"), (.type "LookupError"), (.ref 52), (.type "Exception"), (.type "BaseException"), (.type "object")], ns := 100, qualname := (Str.ofString "MissingStreamError"), hasDict := true, slotNames := [], subclasses := [], abstract := false, collection := none, hasDel := false }), #[(some (.ref 92)), none, (some (.str (Str.ofString "MissingStreamError") 290)), (some (.str (Str.ofString "MissingStreamError") 298)), (some (.builtin "LookupError.__new__")), (some (.bool true))]⟩
noncomputable def o102_117 (P : Params) : Obj := ⟨(.type "getset_descriptor"), none, (.fields #[(.str (Str.ofString "__weakref__") 303), (.ref 101), (.builtin "ExceptionGroup.__weakref__"), .none]), #[]⟩
noncomputable def o103_118 (P : Params) : Obj := ⟨(.type "super"), none, (.fields #[(.ref 101), (.ref 101), (.ref 101)]), #[]⟩
noncomputable def o104_119 (P : Params) : Obj := ⟨(.type "builtin_function_or_method"), none, (.fields #[(.builtin "object.__init_subclass__"), (.ref 101)]), #[]⟩
noncomputable def tr10 (P : Params) : BT := (.node (boot_o_0 P) (.node (boot_o_1 P) (.node (o3_104 P) (.node (boot_o_7 P) (.node (o15_6 P) (.node (o31_27 P) (.node (o63_68 P) .nil .nil) (.node (o95_110 P) .nil .nil)) (.node (o47_49 P) (.node (o79_87 P) .nil .nil) .nil)) (.node (o23_17 P) (.node (o39_37 P) (.node (o71_79 P) .nil .nil) (.node (o103_118 P) .nil .nil)) (.node (o55_57 P) (.node (o87_98 P) .nil .nil) .nil))) (.node (o11_0 P) (.node (o19_10 P) (.node (o35_31 P) (.node (o67_72 P) .nil .nil) (.node (o99_114 P) .nil .nil)) (.node (o51_53 P) (.node (o83_94 P) .nil .nil) .nil)) (.node (o27_21 P) (.node (o43_45 P) (.node (o75_83 P) .nil .nil) .nil) (.node (o59_64 P) (.node (o91_102 P) .nil .nil) .nil)))) (.node (boot_o_5 P) (.node (boot_o_9 P) (.node (o17_8 P) (.node (o33_29 P) (.node (o65_70 P) .nil .nil) (.node (o97_112 P) .nil .nil)) (.node (o49_51 P) (.node (o81_92 P) .nil .nil) .nil)) (.node (o25_19 P) (.node (o41_39 P) (.node (o73_81 P) .nil .nil) .nil) (.node (o57_62 P) (.node (o89_100 P) .nil .nil) .nil))) (.node (o13_2 P) (.node (o21_12 P) (.node (o37_35 P) (.node (o69_77 P) .nil .nil) (.node (o101_116 P) .nil .nil)) (.node (o53_55 P) (.node (o85_96 P) .nil .nil) .nil)) (.node (o29_25 P) (.node (o45_47 P) (.node (o77_85 P) .nil .nil) .nil) (.node (o61_66 P) (.node (o93_108 P) .nil .nil) .nil))))) (.node (o2_103 P) (.node (boot_o_4 P) (.node (boot_o_8 P) (.node (o16_7 P) (.node (o32_28 P) (.node (o64_69 P) .nil .nil) (.node (o96_111 P) .nil .nil)) (.node (o48_50 P) (.node (o80_91 P) .nil .nil) .nil)) (.node (o24_18 P) (.node (o40_38 P) (.node (o72_80 P) .nil .nil) (.node (o104_119 P) .nil .nil)) (.node (o56_61 P) (.node (o88_99 P) .nil .nil) .nil))) (.node (o12_105 P) (.node (o20_11 P) (.node (o36_34 P) (.node (o68_76 P) .nil .nil) (.node (o100_115 P) .nil .nil)) (.node (o52_106 P) (.node (o84_95 P) .nil .nil) .nil)) (.node (o28_22 P) (.node (o44_46 P) (.node (o76_84 P) .nil .nil) .nil) (.node (o60_65 P) (.node (o92_107 P) .nil .nil) .nil)))) (.node (boot_o_6 P) (.node (boot_o_10 P) (.node (o18_9 P) (.node (o34_30 P) (.node (o66_71 P) .nil .nil) (.node (o98_113 P) .nil .nil)) (.node (o50_52 P) (.node (o82_93 P) .nil .nil) .nil)) (.node (o26_20 P) (.node (o42_40 P) (.node (o74_82 P) .nil .nil) .nil) (.node (o58_63 P) (.node (o90_101 P) .nil .nil) .nil))) (.node (o14_3 P) (.node (o22_16 P) (.node (o38_36 P) (.node (o70_78 P) .nil .nil) (.node (o102_117 P) .nil .nil)) (.node (o54_56 P) (.node (o86_97 P) .nil .nil) .nil)) (.node (o30_26 P) (.node (o46_48 P) (.node (o78_86 P) .nil .nil) .nil) (.node (o62_67 P) (.node (o94_109 P) .nil .nil) .nil))))))
noncomputable def S10 (w : World) (os : OsState) : SharedT := ⟨tr10 w.params, 105, lifeH, ⟨[]⟩, ⟨0, 0, 0, 0⟩, 310, os⟩
noncomputable def o3_120 (P : Params) : Obj := ⟨(.type "dict"), none, (.dict #[⟨(PyData.keyHash P (Str.ofString "__name__")), (.str (Str.ofString "__name__") 165), (.str (Str.ofString "priority.priority") 220)⟩, ⟨(PyData.keyHash P (Str.ofString "__doc__")), (.str (Str.ofString "__doc__") 166), .none⟩, ⟨(PyData.keyHash P (Str.ofString "__package__")), (.str (Str.ofString "__package__") 167), .none⟩, ⟨(PyData.keyHash P (Str.ofString "__loader__")), (.str (Str.ofString "__loader__") 168), (.builtin "__main__.__loader__#opaque")⟩, ⟨(PyData.keyHash P (Str.ofString "__spec__")), (.str (Str.ofString "__spec__") 169), .none⟩, ⟨(PyData.keyHash P (Str.ofString "__annotations__")), (.str (Str.ofString "__annotations__") 170), (.ref 6)⟩, ⟨(PyData.keyHash P (Str.ofString "__builtins__")), (.str (Str.ofString "__builtins__") 171), (.ref 4)⟩, ⟨(PyData.keyHash P (Str.ofString "__file__")), (.str (Str.ofString "__file__") 173), (.str (Str.ofString "/claim/cut.py") 172)⟩, ⟨(PyData.keyHash P (Str.ofString "__cached__")), (.str (Str.ofString "__cached__") 174), .none⟩, ⟨(PyData.keyHash P (Str.ofString "_wall")), (.str (Str.ofString "_wall") 193), (.ref 21)⟩, ⟨(PyData.keyHash P (Str.ofString "_ahead")), (.str (Str.ofString "_ahead") 203), (.ref 28)⟩, ⟨(PyData.keyHash P (Str.ofString "heappush")), (.str (Str.ofString "heappush") 212), (.ref 35)⟩, ⟨(PyData.keyHash P (Str.ofString "heappop")), (.str (Str.ofString "heappop") 219), (.ref 42)⟩, ⟨(PyData.keyHash P (Str.ofString "PriorityError")), (.str (Str.ofString "PriorityError") 241), (.ref 52)⟩, ⟨(PyData.keyHash P (Str.ofString "DeadlockError")), (.str (Str.ofString "DeadlockError") 257), (.ref 65)⟩, ⟨(PyData.keyHash P (Str.ofString "PriorityLoop")), (.str (Str.ofString "PriorityLoop") 273), (.ref 77)⟩, ⟨(PyData.keyHash P (Str.ofString "DuplicateStreamError")), (.str (Str.ofString "DuplicateStreamError") 289), (.ref 89)⟩, ⟨(PyData.keyHash P (Str.ofString "MissingStreamError")), (.str (Str.ofString "MissingStreamError") 309), (.ref 101)⟩, ⟨(PyData.keyHash P (Str.ofString "TooManyStreamsError")), (.str (Str.ofString "TooManyStreamsError") 325), (.ref 114)⟩] 19), #[]⟩
noncomputable def o12_121 (P : Params) : Obj := ⟨.none, none, (.fields #[(.int 1 0), (.int 0 0), (.ref 20), (.int 5 0), (.int 0 0), (.ref 27), (.int 9 0), (.int 0 0), (.ref 34), (.int 14 0), (.int 0 0), (.ref 41), (.int 17 0), (.int 0 0), (.ref 48), (.int 19 0), (.int 0 0), (.ref 61), (.int 21 0), (.int 0 0), (.ref 73), (.int 23 0), (.int 0 0), (.ref 85), (.int 25 0), (.int 0 0), (.ref 97), (.int 27 0), (.int 0 0), (.ref 110)]), #[]⟩
noncomputable def o52_122 (P : Params) : Obj := ⟨(.type "type"), none, (.cls { name := (Str.ofString "PriorityError"), bases := [(.type "Exception")], mro := [(.ref 52), (.type "Exception"), (.type "BaseException"), (.type "object")], ns := 51, qualname := (Str.ofString "PriorityError"), hasDict := true, slotNames := [], subclasses := [(.ref 65), (.ref 77), (.ref 89), (.ref 101), (.ref 114)], abstract := false, collection := none, hasDel := false }), #[(some (.ref 43)), none, (some (.str (Str.ofString "PriorityError") 222)), (some (.str (Str.ofString "PriorityError") 230)), (some (.builtin "Exception.__new__")), (some (.bool true))]⟩
noncomputable def o105_123 (P : Params) : Obj := ⟨(.type "tuple"), none, (.seq #[(.ref 52)] 0), #[]⟩
noncomputable def o106_124 (P : Params) : Obj := ⟨(.type "builtin_function_or_method"), none, (.fields #[(.builtin "type.__prepare__"), (.type "type")]), #[]⟩
noncomputable def o107_125 (P : Params) : Obj := ⟨(.type "dict"), none, (.dict #[⟨(PyData.keyHash P (Str.ofString "__module__")), (.str (Str.ofString "__module__") 317), (.str (Str.ofString "priority.priority") 220)⟩, ⟨(PyData.keyHash P (Str.ofString "__qualname__")), (.str (Str.ofString "__qualname__") 319), (.str (Str.ofString "TooManyStreamsError") 318)⟩, ⟨(PyData.keyHash P (Str.ofString "__firstlineno__")), (.str (Str.ofString "__firstlineno__") 321), (.int 27 320)⟩, ⟨(PyData.keyHash P (Str.ofString "__static_attributes__")), (.str (Str.ofString "__static_attributes__") 322), (.ref 112)⟩] 4), #[]⟩
noncomputable def o108_126 (P : Params) : Obj := ⟨(.type "tuple"), none, (.seq #[] 0), #[]⟩
noncomputable def o109_127 (P : Params) : Obj := ⟨.none, none, (.fields #[]), #[]⟩
noncomputable def o110_128 (P : Params) : Obj := ⟨(.type "code"), none, (.fields #[(.str (Str.ofString "TooManyStreamsError") 312), (.str (Str.ofString "TooManyStreamsError") 313), (.str (Str.ofString "/claim/cut.py") 314), (.int 27 0), (.int 0 0), (.int 0 0), (.int 0 0), (.int 0 0), (.ref 108), (.bool false), (.int 181 0), (.ref 109), .none, .none, .none, .none, (.int 315 0), (.int 27 0), (.str (Str.ofString "/claim/cut.py") 316)]), #[]⟩
noncomputable def o111_129 (P : Params) : Obj := ⟨(.type "frame"), none, .plain, #[(some (.ref 110)), (some (.ref 3)), (some (.ref 107)), none, (some (.str (Str.ofString "priority.priority") 220)), none, (some (.ref 0))]⟩
noncomputable def o112_130 (P : Params) : Obj := ⟨(.type "tuple"), none, (.seq #[] 0), #[]⟩
noncomputable def o113_131 (P : Params) : Obj := ⟨(.type "dict"), none, (.dict #[⟨(PyData.keyHash P (Str.ofString "__module__")), (.str (Str.ofString "__module__") 317), (.str (Str.ofString "priority.priority") 220)⟩, ⟨(PyData.keyHash P (Str.ofString "__firstlineno__")), (.str (Str.ofString "__firstlineno__") 321), (.int 27 320)⟩, ⟨(PyData.keyHash P (Str.ofString "__static_attributes__")), (.str (Str.ofString "__static_attributes__") 322), (.ref 112)⟩, ⟨(PyData.keyHash P (Str.ofString "__doc__")), (.str (Str.ofString "__doc__") 323), .none⟩] 2), #[]⟩
noncomputable def o114_132 (P : Params) : Obj := ⟨(.type "type"), none, (.cls { name := (Str.ofString "TooManyStreamsError"), bases := [(.ref 52)], mro := [(.ref 114), (.ref 52), (.type "Exception"), (.type "BaseException"), (.type "object")], ns := 113, qualname := (Str.ofString "TooManyStreamsError"), hasDict := true, slotNames := [], subclasses := [], abstract := false, collection := none, hasDel := false }), #[(some (.ref 105)), none, (some (.str (Str.ofString "TooManyStreamsError") 310)), (some (.str (Str.ofString "TooManyStreamsError") 318)), (some (.builtin "Exception.__new__")), (some (.bool true))]⟩
noncomputable def o115_133 (P : Params) : Obj := ⟨(.type "super"), none, (.fields #[(.ref 114), (.ref 114), (.ref 114)]), #[]⟩
noncomputable def o116_134 (P : Params) : Obj := ⟨(.type "builtin_function_or_method"), none, (.fields #[(.builtin "object.__init_subclass__"), (.ref 114)]), #[]⟩
noncomputable def tr11 (P : Params) : BT := (.node (boot_o_0 P) (.node (boot_o_1 P) (.node (o3_120 P) (.node (boot_o_7 P) (.node (o15_6 P) (.node (o31_27 P) (.node (o63_68 P) .nil .nil) (.node (o95_110 P) .nil .nil)) (.node (o47_49 P) (.node (o79_87 P) .nil .nil) (.node (o111_129 P) .nil .nil))) (.node (o23_17 P) (.node (o39_37 P) (.node (o71_79 P) .nil .nil) (.node (o103_118 P) .nil .nil)) (.node (o55_57 P) (.node (o87_98 P) .nil .nil) .nil))) (.node (o11_0 P) (.node (o19_10 P) (.node (o35_31 P) (.node (o67_72 P) .nil .nil) (.node (o99_114 P) .nil .nil)) (.node (o51_53 P) (.node (o83_94 P) .nil .nil) (.node (o115_133 P) .nil .nil))) (.node (o27_21 P) (.node (o43_45 P) (.node (o75_83 P) .nil .nil) (.node (o107_125 P) .nil .nil)) (.node (o59_64 P) (.node (o91_102 P) .nil .nil) .nil)))) (.node (boot_o_5 P) (.node (boot_o_9 P) (.node (o17_8 P) (.node (o33_29 P) (.node (o65_70 P) .nil .nil) (.node (o97_112 P) .nil .nil)) (.node (o49_51 P) (.node (o81_92 P) .nil .nil) (.node (o113_131 P) .nil .nil))) (.node (o25_19 P) (.node (o41_39 P) (.node (o73_81 P) .nil .nil) (.node (o105_123 P) .nil .nil)) (.node (o57_62 P) (.node (o89_100 P) .nil .nil) .nil))) (.node (o13_2 P) (.node (o21_12 P) (.node (o37_35 P) (.node (o69_77 P) .nil .nil) (.node (o101_116 P) .nil .nil)) (.node (o53_55 P) (.node (o85_96 P) .nil .nil) .nil)) (.node (o29_25 P) (.node (o45_47 P) (.node (o77_85 P) .nil .nil) (.node (o109_127 P) .nil .nil)) (.node (o61_66 P) (.node (o93_108 P) .nil .nil) .nil))))) (.node (o2_103 P) (.node (boot_o_4 P) (.node (boot_o_8 P) (.node (o16_7 P) (.node (o32_28 P) (.node (o64_69 P) .nil .nil) (.node (o96_111 P) .nil .nil)) (.node (o48_50 P) (.node (o80_91 P) .nil .nil) (.node (o112_130 P) .nil .nil))) (.node (o24_18 P) (.node (o40_38 P) (.node (o72_80 P) .nil .nil) (.node (o104_119 P) .nil .nil)) (.node (o56_61 P) (.node (o88_99 P) .nil .nil) .nil))) (.node (o12_121 P) (.node (o20_11 P) (.node (o36_34 P) (.node (o68_76 P) .nil .nil) (.node (o100_115 P) .nil .nil)) (.node (o52_122 P) (.node (o84_95 P) .nil .nil) (.node (o116_134 P) .nil .nil))) (.node (o28_22 P) (.node (o44_46 P) (.node (o76_84 P) .nil .nil) (.node (o108_126 P) .nil .nil)) (.node (o60_65 P) (.node (o92_107 P) .nil .nil) .nil)))) (.node (boot_o_6 P) (.node (boot_o_10 P) (.node (o18_9 P) (.node (o34_30 P) (.node (o66_71 P) .nil .nil) (.node (o98_113 P) .nil .nil)) (.node (o50_52 P) (.node (o82_93 P) .nil .nil) (.node (o114_132 P) .nil .nil))) (.node (o26_20 P) (.node (o42_40 P) (.node (o74_82 P) .nil .nil) (.node (o106_124 P) .nil .nil)) (.node (o58_63 P) (.node (o90_101 P) .nil .nil) .nil))) (.node (o14_3 P) (.node (o22_16 P) (.node (o38_36 P) (.node (o70_78 P) .nil .nil) (.node (o102_117 P) .nil .nil)) (.node (o54_56 P) (.node (o86_97 P) .nil .nil) .nil)) (.node (o30_26 P) (.node (o46_48 P) (.node (o78_86 P) .nil .nil) (.node (o110_128 P) .nil .nil)) (.node (o62_67 P) (.node (o94_109 P) .nil .nil) .nil))))))
noncomputable def S11 (w : World) (os : OsState) : SharedT := ⟨tr11 w.params, 117, lifeH, ⟨[]⟩, ⟨0, 0, 0, 0⟩, 326, os⟩
noncomputable def o3_135 (P : Params) : Obj := ⟨(.type "dict"), none, (.dict #[⟨(PyData.keyHash P (Str.ofString "__name__")), (.str (Str.ofString "__name__") 165), (.str (Str.ofString "priority.priority") 220)⟩, ⟨(PyData.keyHash P (Str.ofString "__doc__")), (.str (Str.ofString "__doc__") 166), .none⟩, ⟨(PyData.keyHash P (Str.ofString "__package__")), (.str (Str.ofString "__package__") 167), .none⟩, ⟨(PyData.keyHash P (Str.ofString "__loader__")), (.str (Str.ofString "__loader__") 168), (.builtin "__main__.__loader__#opaque")⟩, ⟨(PyData.keyHash P (Str.ofString "__spec__")), (.str (Str.ofString "__spec__") 169), .none⟩, ⟨(PyData.keyHash P (Str.ofString "__annotations__")), (.str (Str.ofString "__annotations__") 170), (.ref 6)⟩, ⟨(PyData.keyHash P (Str.ofString "__builtins__")), (.str (Str.ofString "__builtins__") 171), (.ref 4)⟩, ⟨(PyData.keyHash P (Str.ofString "__file__")), (.str (Str.ofString "__file__") 173), (.str (Str.ofString "/claim/cut.py") 172)⟩, ⟨(PyData.keyHash P (Str.ofString "__cached__")), (.str (Str.ofString "__cached__") 174), .none⟩, ⟨(PyData.keyHash P (Str.ofString "_wall")), (.str (Str.ofString "_wall") 193), (.ref 21)⟩, ⟨(PyData.keyHash P (Str.ofString "_ahead")), (.str (Str.ofString "_ahead") 203), (.ref 28)⟩, ⟨(PyData.keyHash P (Str.ofString "heappush")), (.str (Str.ofString "heappush") 212), (.ref 35)⟩, ⟨(PyData.keyHash P (Str.ofString "heappop")), (.str (Str.ofString "heappop") 219), (.ref 42)⟩, ⟨(PyData.keyHash P (Str.ofString "PriorityError")), (.str (Str.ofString "PriorityError") 241), (.ref 52)⟩, ⟨(PyData.keyHash P (Str.ofString "DeadlockError")), (.str (Str.ofString "DeadlockError") 257), (.ref 65)⟩, ⟨(PyData.keyHash P (Str.ofString "PriorityLoop")), (.str (Str.ofString "PriorityLoop") 273), (.ref 77)⟩, ⟨(PyData.keyHash P (Str.ofString "DuplicateStreamError")), (.str (Str.ofString "DuplicateStreamError") 289), (.ref 89)⟩, ⟨(PyData.keyHash P (Str.ofString "MissingStreamError")), (.str (Str.ofString "MissingStreamError") 309), (.ref 101)⟩, ⟨(PyData.keyHash P (Str.ofString "TooManyStreamsError")), (.str (Str.ofString "TooManyStreamsError") 325), (.ref 114)⟩, ⟨(PyData.keyHash P (Str.ofString "BadWeightError")), (.str (Str.ofString "BadWeightError") 341), (.ref 126)⟩] 20), #[]⟩
noncomputable def o12_136 (P : Params) : Obj := ⟨.none, none, (.fields #[(.int 1 0), (.int 0 0), (.ref 20), (.int 5 0), (.int 0 0), (.ref 27), (.int 9 0), (.int 0 0), (.ref 34), (.int 14 0), (.int 0 0), (.ref 41), (.int 17 0), (.int 0 0), (.ref 48), (.int 19 0), (.int 0 0), (.ref 61), (.int 21 0), (.int 0 0), (.ref 73), (.int 23 0), (.int 0 0), (.ref 85), (.int 25 0), (.int 0 0), (.ref 97), (.int 27 0), (.int 0 0), (.ref 110), (.int 29 0), (.int 0 0), (.ref 122)]), #[]⟩
noncomputable def o52_137 (P : Params) : Obj := ⟨(.type "type"), none, (.cls { name := (Str.ofString "PriorityError"), bases := [(.type "Exception")], mro := [(.ref 52), (.type "Exception"), (.type "BaseException"), (.type "object")], ns := 51, qualname := (Str.ofString "PriorityError"), hasDict := true, slotNames := [], subclasses := [(.ref 65), (.ref 77), (.ref 89), (.ref 101), (.ref 114), (.ref 126)], abstract := false, collection := none, hasDel := false }), #[(some (.ref 43)), none, (some (.str (Str.ofString "PriorityError") 222)), (some (.str (Str.ofString "PriorityError") 230)), (some (.builtin "Exception.__new__")), (some (.bool true))]⟩
noncomputable def o117_138 (P : Params) : Obj := ⟨(.type "tuple"), none, (.seq #[(.ref 52)] 0), #[]⟩
noncomputable def o118_139 (P : Params) : Obj := ⟨(.type "builtin_function_or_method"), none, (.fields #[(.builtin "type.__prepare__"), (.type "type")]), #[]⟩
noncomputable def o119_140 (P : Params) : Obj := ⟨(.type "dict"), none, (.dict #[⟨(PyData.keyHash P (Str.ofString "__module__")), (.str (Str.ofString "__module__") 333), (.str (Str.ofString "priority.priority") 220)⟩, ⟨(PyData.keyHash P (Str.ofString "__qualname__")), (.str (Str.ofString "__qualname__") 335), (.str (Str.ofString "BadWeightError") 334)⟩, ⟨(PyData.keyHash P (Str.ofString "__firstlineno__")), (.str (Str.ofString "__firstlineno__") 337), (.int 29 336)⟩, ⟨(PyData.keyHash P (Str.ofString "__static_attributes__")), (.str (Str.ofString "__static_attributes__") 338), (.ref 124)⟩] 4), #[]⟩
noncomputable def o120_141 (P : Params) : Obj := ⟨(.type "tuple"), none, (.seq #[] 0), #[]⟩
noncomputable def o121_142 (P : Params) : Obj := ⟨.none, none, (.fields #[]), #[]⟩
noncomputable def o122_143 (P : Params) : Obj := ⟨(.type "code"), none, (.fields #[(.str (Str.ofString "BadWeightError") 328), (.str (Str.ofString "BadWeightError") 329), (.str (Str.ofString "/claim/cut.py") 330), (.int 29 0), (.int 0 0), (.int 0 0), (.int 0 0), (.int 0 0), (.ref 120), (.bool false), (.int 181 0), (.ref 121), .none, .none, .none, .none, (.int 331 0), (.int 29 0), (.str (Str.ofString "/claim/cut.py") 332)]), #[]⟩
noncomputable def o123_144 (P : Params) : Obj := ⟨(.type "frame"), none, .plain, #[(some (.ref 122)), (some (.ref 3)), (some (.ref 119)), none, (some (.str (Str.ofString "priority.priority") 220)), none, (some (.ref 0))]⟩
noncomputable def o124_145 (P : Params) : Obj := ⟨(.type "tuple"), none, (.seq #[] 0), #[]⟩
noncomputable def o125_146 (P : Params) : Obj := ⟨(.type "dict"), none, (.dict #[⟨(PyData.keyHash P (Str.ofString "__module__")), (.str (Str.ofString "__module__") 333), (.str (Str.ofString "priority.priority") 220)⟩, ⟨(PyData.keyHash P (Str.ofString "__firstlineno__")), (.str (Str.ofString "__firstlineno__") 337), (.int 29 336)⟩, ⟨(PyData.keyHash P (Str.ofString "__static_attributes__")), (.str (Str.ofString "__static_attributes__") 338), (.ref 124)⟩, ⟨(PyData.keyHash P (Str.ofString "__doc__")), (.str (Str.ofString "__doc__") 339), .none⟩] 2), #[]⟩
noncomputable def o126_147 (P : Params) : Obj := ⟨(.type "type"), none, (.cls { name := (Str.ofString "BadWeightError"), bases := [(.ref 52)], mro := [(.ref 126), (.ref 52), (.type "Exception"), (.type "BaseException"), (.type "object")], ns := 125, qualname := (Str.ofString "BadWeightError"), hasDict := true, slotNames := [], subclasses := [], abstract := false, collection := none, hasDel := false }), #[(some (.ref 117)), none, (some (.str (Str.ofString "BadWeightError") 326)), (some (.str (Str.ofString "BadWeightError") 334)), (some (.builtin "Exception.__new__")), (some (.bool true))]⟩
noncomputable def o127_148 (P : Params) : Obj := ⟨(.type "super"), none, (.fields #[(.ref 126), (.ref 126), (.ref 126)]), #[]⟩
noncomputable def o128_149 (P : Params) : Obj := ⟨(.type "builtin_function_or_method"), none, (.fields #[(.builtin "object.__init_subclass__"), (.ref 126)]), #[]⟩
noncomputable def tr12 (P : Params) : BT := (.node (boot_o_0 P) (.node (boot_o_1 P) (.node (o3_135 P) (.node (boot_o_7 P) (.node (o15_6 P) (.node (o31_27 P) (.node (o63_68 P) (.node (o127_148 P) .nil .nil) .nil) (.node (o95_110 P) .nil .nil)) (.node (o47_49 P) (.node (o79_87 P) .nil .nil) (.node (o111_129 P) .nil .nil))) (.node (o23_17 P) (.node (o39_37 P) (.node (o71_79 P) .nil .nil) (.node (o103_118 P) .nil .nil)) (.node (o55_57 P) (.node (o87_98 P) .nil .nil) (.node (o119_140 P) .nil .nil)))) (.node (o11_0 P) (.node (o19_10 P) (.node (o35_31 P) (.node (o67_72 P) .nil .nil) (.node (o99_114 P) .nil .nil)) (.node (o51_53 P) (.node (o83_94 P) .nil .nil) (.node (o115_133 P) .nil .nil))) (.node (o27_21 P) (.node (o43_45 P) (.node (o75_83 P) .nil .nil) (.node (o107_125 P) .nil .nil)) (.node (o59_64 P) (.node (o91_102 P) .nil .nil) (.node (o123_144 P) .nil .nil))))) (.node (boot_o_5 P) (.node (boot_o_9 P) (.node (o17_8 P) (.node (o33_29 P) (.node (o65_70 P) .nil .nil) (.node (o97_112 P) .nil .nil)) (.node (o49_51 P) (.node (o81_92 P) .nil .nil) (.node (o113_131 P) .nil .nil))) (.node (o25_19 P) (.node (o41_39 P) (.node (o73_81 P) .nil .nil) (.node (o105_123 P) .nil .nil)) (.node (o57_62 P) (.node (o89_100 P) .nil .nil) (.node (o121_142 P) .nil .nil)))) (.node (o13_2 P) (.node (o21_12 P) (.node (o37_35 P) (.node (o69_77 P) .nil .nil) (.node (o101_116 P) .nil .nil)) (.node (o53_55 P) (.node (o85_96 P) .nil .nil) (.node (o117_138 P) .nil .nil))) (.node (o29_25 P) (.node (o45_47 P) (.node (o77_85 P) .nil .nil) (.node (o109_127 P) .nil .nil)) (.node (o61_66 P) (.node (o93_108 P) .nil .nil) (.node (o125_146 P) .nil .nil)))))) (.node (o2_103 P) (.node (boot_o_4 P) (.node (boot_o_8 P) (.node (o16_7 P) (.node (o32_28 P) (.node (o64_69 P) (.node (o128_149 P) .nil .nil) .nil) (.node (o96_111 P) .nil .nil)) (.node (o48_50 P) (.node (o80_91 P) .nil .nil) (.node (o112_130 P) .nil .nil))) (.node (o24_18 P) (.node (o40_38 P) (.node (o72_80 P) .nil .nil) (.node (o104_119 P) .nil .nil)) (.node (o56_61 P) (.node (o88_99 P) .nil .nil) (.node (o120_141 P) .nil .nil)))) (.node (o12_136 P) (.node (o20_11 P) (.node (o36_34 P) (.node (o68_76 P) .nil .nil) (.node (o100_115 P) .nil .nil)) (.node (o52_137 P) (.node (o84_95 P) .nil .nil) (.node (o116_134 P) .nil .nil))) (.node (o28_22 P) (.node (o44_46 P) (.node (o76_84 P) .nil .nil) (.node (o108_126 P) .nil .nil)) (.node (o60_65 P) (.node (o92_107 P) .nil .nil) (.node (o124_145 P) .nil .nil))))) (.node (boot_o_6 P) (.node (boot_o_10 P) (.node (o18_9 P) (.node (o34_30 P) (.node (o66_71 P) .nil .nil) (.node (o98_113 P) .nil .nil)) (.node (o50_52 P) (.node (o82_93 P) .nil .nil) (.node (o114_132 P) .nil .nil))) (.node (o26_20 P) (.node (o42_40 P) (.node (o74_82 P) .nil .nil) (.node (o106_124 P) .nil .nil)) (.node (o58_63 P) (.node (o90_101 P) .nil .nil) (.node (o122_143 P) .nil .nil)))) (.node (o14_3 P) (.node (o22_16 P) (.node (o38_36 P) (.node (o70_78 P) .nil .nil) (.node (o102_117 P) .nil .nil)) (.node (o54_56 P) (.node (o86_97 P) .nil .nil) (.node (o118_139 P) .nil .nil))) (.node (o30_26 P) (.node (o46_48 P) (.node (o78_86 P) .nil .nil) (.node (o110_128 P) .nil .nil)) (.node (o62_67 P) (.node (o94_109 P) .nil .nil) (.node (o126_147 P) .nil .nil)))))))
noncomputable def S12 (w : World) (os : OsState) : SharedT := ⟨tr12 w.params, 129, lifeH, ⟨[]⟩, ⟨0, 0, 0, 0⟩, 342, os⟩
noncomputable def o3_150 (P : Params) : Obj := ⟨(.type "dict"), none, (.dict #[⟨(PyData.keyHash P (Str.ofString "__name__")), (.str (Str.ofString "__name__") 165), (.str (Str.ofString "priority.priority") 220)⟩, ⟨(PyData.keyHash P (Str.ofString "__doc__")), (.str (Str.ofString "__doc__") 166), .none⟩, ⟨(PyData.keyHash P (Str.ofString "__package__")), (.str (Str.ofString "__package__") 167), .none⟩, ⟨(PyData.keyHash P (Str.ofString "__loader__")), (.str (Str.ofString "__loader__") 168), (.builtin "__main__.__loader__#opaque")⟩, ⟨(PyData.keyHash P (Str.ofString "__spec__")), (.str (Str.ofString "__spec__") 169), .none⟩, ⟨(PyData.keyHash P (Str.ofString "__annotations__")), (.str (Str.ofString "__annotations__") 170), (.ref 6)⟩, ⟨(PyData.keyHash P (Str.ofString "__builtins__")), (.str (Str.ofString "__builtins__") 171), (.ref 4)⟩, ⟨(PyData.keyHash P (Str.ofString "__file__")), (.str (Str.ofString "__file__") 173), (.str (Str.ofString "/claim/cut.py") 172)⟩, ⟨(PyData.keyHash P (Str.ofString "__cached__")), (.str (Str.ofString "__cached__") 174), .none⟩, ⟨(PyData.keyHash P (Str.ofString "_wall")), (.str (Str.ofString "_wall") 193), (.ref 21)⟩, ⟨(PyData.keyHash P (Str.ofString "_ahead")), (.str (Str.ofString "_ahead") 203), (.ref 28)⟩, ⟨(PyData.keyHash P (Str.ofString "heappush")), (.str (Str.ofString "heappush") 212), (.ref 35)⟩, ⟨(PyData.keyHash P (Str.ofString "heappop")), (.str (Str.ofString "heappop") 219), (.ref 42)⟩, ⟨(PyData.keyHash P (Str.ofString "PriorityError")), (.str (Str.ofString "PriorityError") 241), (.ref 52)⟩, ⟨(PyData.keyHash P (Str.ofString "DeadlockError")), (.str (Str.ofString "DeadlockError") 257), (.ref 65)⟩, ⟨(PyData.keyHash P (Str.ofString "PriorityLoop")), (.str (Str.ofString "PriorityLoop") 273), (.ref 77)⟩, ⟨(PyData.keyHash P (Str.ofString "DuplicateStreamError")), (.str (Str.ofString "DuplicateStreamError") 289), (.ref 89)⟩, ⟨(PyData.keyHash P (Str.ofString "MissingStreamError")), (.str (Str.ofString "MissingStreamError") 309), (.ref 101)⟩, ⟨(PyData.keyHash P (Str.ofString "TooManyStreamsError")), (.str (Str.ofString "TooManyStreamsError") 325), (.ref 114)⟩, ⟨(PyData.keyHash P (Str.ofString "BadWeightError")), (.str (Str.ofString "BadWeightError") 341), (.ref 126)⟩, ⟨(PyData.keyHash P (Str.ofString "PseudoStreamError")), (.str (Str.ofString "PseudoStreamError") 357), (.ref 138)⟩] 21), #[]⟩
noncomputable def o12_151 (P : Params) : Obj := ⟨.none, none, (.fields #[(.int 1 0), (.int 0 0), (.ref 20), (.int 5 0), (.int 0 0), (.ref 27), (.int 9 0), (.int 0 0), (.ref 34), (.int 14 0), (.int 0 0), (.ref 41), (.int 17 0), (.int 0 0), (.ref 48), (.int 19 0), (.int 0 0), (.ref 61), (.int 21 0), (.int 0 0), (.ref 73), (.int 23 0), (.int 0 0), (.ref 85), (.int 25 0), (.int 0 0), (.ref 97), (.int 27 0), (.int 0 0), (.ref 110), (.int 29 0), (.int 0 0), (.ref 122), (.int 31 0), (.int 0 0), (.ref 134)]), #[]⟩
noncomputable def o52_152 (P : Params) : Obj := ⟨(.type "type"), none, (.cls { name := (Str.ofString "PriorityError"), bases := [(.type "Exception")], mro := [(.ref 52), (.type "Exception"), (.type "BaseException"), (.type "object")], ns := 51, qualname := (Str.ofString "PriorityError"), hasDict := true, slotNames := [], subclasses := [(.ref 65), (.ref 77), (.ref 89), (.ref 101), (.ref 114), (.ref 126), (.ref 138)], abstract := false, collection := none, hasDel := false }), #[(some (.ref 43)), none, (some (.str (Str.ofString "PriorityError") 222)), (some (.str (Str.ofString "PriorityError") 230)), (some (.builtin "Exception.__new__")), (some (.bool true))]⟩
noncomputable def o129_153 (P : Params) : Obj := ⟨(.type "tuple"), none, (.seq #[(.ref 52)] 0), #[]⟩
noncomputable def o130_154 (P : Params) : Obj := ⟨(.type "builtin_function_or_method"), none, (.fields #[(.builtin "type.__prepare__"), (.type "type")]), #[]⟩
noncomputable def o131_155 (P : Params) : Obj := ⟨(.type "dict"), none, (.dict #[⟨(PyData.keyHash P (Str.ofString "__module__")), (.str (Str.ofString "__module__") 349), (.str (Str.ofString "priority.priority") 220)⟩, ⟨(PyData.keyHash P (Str.ofString "__qualname__")), (.str (Str.ofString "__qualname__") 351), (.str (Str.ofString "PseudoStreamError") 350)⟩, ⟨(PyData.keyHash P (Str.ofString "__firstlineno__")), (.str (Str.ofString "__firstlineno__") 353), (.int 31 352)⟩, ⟨(PyData.keyHash P (Str.ofString "__static_attributes__")), (.str (Str.ofString "__static_attributes__") 354), (.ref 136)⟩] 4), #[]⟩
noncomputable def o132_156 (P : Params) : Obj := ⟨(.type "tuple"), none, (.seq #[] 0), #[]⟩
noncomputable def o133_157 (P : Params) : Obj := ⟨.none, none, (.fields #[]), #[]⟩
noncomputable def o134_158 (P : Params) : Obj := ⟨(.type "code"), none, (.fields #[(.str (Str.ofString "PseudoStreamError") 344), (.str (Str.ofString "PseudoStreamError") 345), (.str (Str.ofString "/claim/cut.py") 346), (.int 31 0), (.int 0 0), (.int 0 0), (.int 0 0), (.int 0 0), (.ref 132), (.bool false), (.int 181 0), (.ref 133), .none, .none, .none, .none, (.int 347 0), (.int 31 0), (.str (Str.ofString "/claim/cut.py") 348)]), #[]⟩
noncomputable def o135_159 (P : Params) : Obj := ⟨(.type "frame"), none, .plain, #[(some (.ref 134)), (some (.ref 3)), (some (.ref 131)), none, (some (.str (Str.ofString "priority.priority") 220)), none, (some (.ref 0))]⟩
noncomputable def o136_160 (P : Params) : Obj := ⟨(.type "tuple"), none, (.seq #[] 0), #[]⟩
noncomputable def o137_161 (P : Params) : Obj := ⟨(.type "dict"), none, (.dict #[⟨(PyData.keyHash P (Str.ofString "__module__")), (.str (Str.ofString "__module__") 349), (.str (Str.ofString "priority.priority") 220)⟩, ⟨(PyData.keyHash P (Str.ofString "__firstlineno__")), (.str (Str.ofString "__firstlineno__") 353), (.int 31 352)⟩, ⟨(PyData.keyHash P (Str.ofString "__static_attributes__")), (.str (Str.ofString "__static_attributes__") 354), (.ref 136)⟩, ⟨(PyData.keyHash P (Str.ofString "__doc__")), (.str (Str.ofString "__doc__") 355), .none⟩] 2), #[]⟩
noncomputable def o138_162 (P : Params) : Obj := ⟨(.type "type"), none, (.cls { name := (Str.ofString "PseudoStreamError"), bases := [(.ref 52)], mro := [(.ref 138), (.ref 52), (.type "Exception"), (.type "BaseException"), (.type "object")], ns := 137, qualname := (Str.ofString "PseudoStreamError"), hasDict := true, slotNames := [], subclasses := [], abstract := false, collection := none, hasDel := false }), #[(some (.ref 129)), none, (some (.str (Str.ofString "PseudoStreamError") 342)), (some (.str (Str.ofString "PseudoStreamError") 350)), (some (.builtin "Exception.__new__")), (some (.bool true))]⟩
noncomputable def o139_163 (P : Params) : Obj := ⟨(.type "super"), none, (.fields #[(.ref 138), (.ref 138), (.ref 138)]), #[]⟩
noncomputable def o140_164 (P : Params) : Obj := ⟨(.type "builtin_function_or_method"), none, (.fields #[(.builtin "object.__init_subclass__"), (.ref 138)]), #[]⟩
noncomputable def tr13 (P : Params) : BT := (.node (boot_o_0 P) (.node (boot_o_1 P) (.node (o3_150 P) (.node (boot_o_7 P) (.node (o15_6 P) (.node (o31_27 P) (.node (o63_68 P) (.node (o127_148 P) .nil .nil) .nil) (.node (o95_110 P) .nil .nil)) (.node (o47_49 P) (.node (o79_87 P) .nil .nil) (.node (o111_129 P) .nil .nil))) (.node (o23_17 P) (.node (o39_37 P) (.node (o71_79 P) (.node (o135_159 P) .nil .nil) .nil) (.node (o103_118 P) .nil .nil)) (.node (o55_57 P) (.node (o87_98 P) .nil .nil) (.node (o119_140 P) .nil .nil)))) (.node (o11_0 P) (.node (o19_10 P) (.node (o35_31 P) (.node (o67_72 P) (.node (o131_155 P) .nil .nil) .nil) (.node (o99_114 P) .nil .nil)) (.node (o51_53 P) (.node (o83_94 P) .nil .nil) (.node (o115_133 P) .nil .nil))) (.node (o27_21 P) (.node (o43_45 P) (.node (o75_83 P) (.node (o139_163 P) .nil .nil) .nil) (.node (o107_125 P) .nil .nil)) (.node (o59_64 P) (.node (o91_102 P) .nil .nil) (.node (o123_144 P) .nil .nil))))) (.node (boot_o_5 P) (.node (boot_o_9 P) (.node (o17_8 P) (.node (o33_29 P) (.node (o65_70 P) (.node (o129_153 P) .nil .nil) .nil) (.node (o97_112 P) .nil .nil)) (.node (o49_51 P) (.node (o81_92 P) .nil .nil) (.node (o113_131 P) .nil .nil))) (.node (o25_19 P) (.node (o41_39 P) (.node (o73_81 P) (.node (o137_161 P) .nil .nil) .nil) (.node (o105_123 P) .nil .nil)) (.node (o57_62 P) (.node (o89_100 P) .nil .nil) (.node (o121_142 P) .nil .nil)))) (.node (o13_2 P) (.node (o21_12 P) (.node (o37_35 P) (.node (o69_77 P) (.node (o133_157 P) .nil .nil) .nil) (.node (o101_116 P) .nil .nil)) (.node (o53_55 P) (.node (o85_96 P) .nil .nil) (.node (o117_138 P) .nil .nil))) (.node (o29_25 P) (.node (o45_47 P) (.node (o77_85 P) .nil .nil) (.node (o109_127 P) .nil .nil)) (.node (o61_66 P) (.node (o93_108 P) .nil .nil) (.node (o125_146 P) .nil .nil)))))) (.node (o2_103 P) (.node (boot_o_4 P) (.node (boot_o_8 P) (.node (o16_7 P) (.node (o32_28 P) (.node (o64_69 P) (.node (o128_149 P) .nil .nil) .nil) (.node (o96_111 P) .nil .nil)) (.node (o48_50 P) (.node (o80_91 P) .nil .nil) (.node (o112_130 P) .nil .nil))) (.node (o24_18 P) (.node (o40_38 P) (.node (o72_80 P) (.node (o136_160 P) .nil .nil) .nil) (.node (o104_119 P) .nil .nil)) (.node (o56_61 P) (.node (o88_99 P) .nil .nil) (.node (o120_141 P) .nil .nil)))) (.node (o12_151 P) (.node (o20_11 P) (.node (o36_34 P) (.node (o68_76 P) (.node (o132_156 P) .nil .nil) .nil) (.node (o100_115 P) .nil .nil)) (.node (o52_152 P) (.node (o84_95 P) .nil .nil) (.node (o116_134 P) .nil .nil))) (.node (o28_22 P) (.node (o44_46 P) (.node (o76_84 P) (.node (o140_164 P) .nil .nil) .nil) (.node (o108_126 P) .nil .nil)) (.node (o60_65 P) (.node (o92_107 P) .nil .nil) (.node (o124_145 P) .nil .nil))))) (.node (boot_o_6 P) (.node (boot_o_10 P) (.node (o18_9 P) (.node (o34_30 P) (.node (o66_71 P) (.node (o130_154 P) .nil .nil) .nil) (.node (o98_113 P) .nil .nil)) (.node (o50_52 P) (.node (o82_93 P) .nil .nil) (.node (o114_132 P) .nil .nil))) (.node (o26_20 P) (.node (o42_40 P) (.node (o74_82 P) (.node (o138_162 P) .nil .nil) .nil) (.node (o106_124 P) .nil .nil)) (.node (o58_63 P) (.node (o90_101 P) .nil .nil) (.node (o122_143 P) .nil .nil)))) (.node (o14_3 P) (.node (o22_16 P) (.node (o38_36 P) (.node (o70_78 P) (.node (o134_158 P) .nil .nil) .nil) (.node (o102_117 P) .nil .nil)) (.node (o54_56 P) (.node (o86_97 P) .nil .nil) (.node (o118_139 P) .nil .nil))) (.node (o30_26 P) (.node (o46_48 P) (.node (o78_86 P) .nil .nil) (.node (o110_128 P) .nil .nil)) (.node (o62_67 P) (.node (o94_109 P) .nil .nil) (.node (o126_147 P) .nil .nil)))))))
noncomputable def S13 (w : World) (os : OsState) : SharedT := ⟨tr13 w.params, 141, lifeH, ⟨[]⟩, ⟨0, 0, 0, 0⟩, 358, os⟩
noncomputable def o3_165 (P : Params) : Obj := ⟨(.type "dict"), none, (.dict #[⟨(PyData.keyHash P (Str.ofString "__name__")), (.str (Str.ofString "__name__") 165), (.str (Str.ofString "priority.priority") 220)⟩, ⟨(PyData.keyHash P (Str.ofString "__doc__")), (.str (Str.ofString "__doc__") 166), .none⟩, ⟨(PyData.keyHash P (Str.ofString "__package__")), (.str (Str.ofString "__package__") 167), .none⟩, ⟨(PyData.keyHash P (Str.ofString "__loader__")), (.str (Str.ofString "__loader__") 168), (.builtin "__main__.__loader__#opaque")⟩, ⟨(PyData.keyHash P (Str.ofString "__spec__")), (.str (Str.ofString "__spec__") 169), .none⟩, ⟨(PyData.keyHash P (Str.ofString "__annotations__")), (.str (Str.ofString "__annotations__") 170), (.ref 6)⟩, ⟨(PyData.keyHash P (Str.ofString "__builtins__")), (.str (Str.ofString "__builtins__") 171), (.ref 4)⟩, ⟨(PyData.keyHash P (Str.ofString "__file__")), (.str (Str.ofString "__file__") 173), (.str (Str.ofString "/claim/cut.py") 172)⟩, ⟨(PyData.keyHash P (Str.ofString "__cached__")), (.str (Str.ofString "__cached__") 174), .none⟩, ⟨(PyData.keyHash P (Str.ofString "_wall")), (.str (Str.ofString "_wall") 193), (.ref 21)⟩, ⟨(PyData.keyHash P (Str.ofString "_ahead")), (.str (Str.ofString "_ahead") 203), (.ref 28)⟩, ⟨(PyData.keyHash P (Str.ofString "heappush")), (.str (Str.ofString "heappush") 212), (.ref 35)⟩, ⟨(PyData.keyHash P (Str.ofString "heappop")), (.str (Str.ofString "heappop") 219), (.ref 42)⟩, ⟨(PyData.keyHash P (Str.ofString "PriorityError")), (.str (Str.ofString "PriorityError") 241), (.ref 52)⟩, ⟨(PyData.keyHash P (Str.ofString "DeadlockError")), (.str (Str.ofString "DeadlockError") 257), (.ref 65)⟩, ⟨(PyData.keyHash P (Str.ofString "PriorityLoop")), (.str (Str.ofString "PriorityLoop") 273), (.ref 77)⟩, ⟨(PyData.keyHash P (Str.ofString "DuplicateStreamError")), (.str (Str.ofString "DuplicateStreamError") 289), (.ref 89)⟩, ⟨(PyData.keyHash P (Str.ofString "MissingStreamError")), (.str (Str.ofString "MissingStreamError") 309), (.ref 101)⟩, ⟨(PyData.keyHash P (Str.ofString "TooManyStreamsError")), (.str (Str.ofString "TooManyStreamsError") 325), (.ref 114)⟩, ⟨(PyData.keyHash P (Str.ofString "BadWeightError")), (.str (Str.ofString "BadWeightError") 341), (.ref 126)⟩, ⟨(PyData.keyHash P (Str.ofString "PseudoStreamError")), (.str (Str.ofString "PseudoStreamError") 357), (.ref 138)⟩, ⟨(PyData.keyHash P (Str.ofString "Stream")), (.str (Str.ofString "Stream") 509), (.ref 253)⟩] 22), #[]⟩
noncomputable def o12_166 (P : Params) : Obj := ⟨.none, none, (.fields #[(.int 1 0), (.int 0 0), (.ref 20), (.int 5 0), (.int 0 0), (.ref 27), (.int 9 0), (.int 0 0), (.ref 34), (.int 14 0), (.int 0 0), (.ref 41), (.int 17 0), (.int 0 0), (.ref 48), (.int 19 0), (.int 0 0), (.ref 61), (.int 21 0), (.int 0 0), (.ref 73), (.int 23 0), (.int 0 0), (.ref 85), (.int 25 0), (.int 0 0), (.ref 97), (.int 27 0), (.int 0 0), (.ref 110), (.int 29 0), (.int 0 0), (.ref 122), (.int 31 0), (.int 0 0), (.ref 134), (.int 33 0), (.int 0 0), (.ref 146)]), #[]⟩
noncomputable def o141_167 (P : Params) : Obj := ⟨(.type "tuple"), none, (.seq #[] 0), #[]⟩
noncomputable def o142_168 (P : Params) : Obj := ⟨(.type "builtin_function_or_method"), none, (.fields #[(.builtin "type.__prepare__"), (.type "type")]), #[]⟩
noncomputable def o143_169 (P : Params) : Obj := ⟨(.type "dict"), none, (.dict #[⟨(PyData.keyHash P (Str.ofString "__module__")), (.str (Str.ofString "__module__") 365), (.str (Str.ofString "priority.priority") 220)⟩, ⟨(PyData.keyHash P (Str.ofString "__qualname__")), (.str (Str.ofString "__qualname__") 367), (.str (Str.ofString "Stream") 366)⟩, ⟨(PyData.keyHash P (Str.ofString "__firstlineno__")), (.str (Str.ofString "__firstlineno__") 369), (.int 33 368)⟩, ⟨(PyData.keyHash P (Str.ofString "__init__")), (.str (Str.ofString "__init__") 379), (.ref 155)⟩, ⟨(PyData.keyHash P (Str.ofString "weight")), (.str (Str.ofString "weight") 387), (.ref 172)⟩, ⟨(PyData.keyHash P (Str.ofString "add_child")), (.str (Str.ofString "add_child") 405), (.ref 179)⟩, ⟨(PyData.keyHash P (Str.ofString "add_child_exclusive")), (.str (Str.ofString "add_child_exclusive") 415), (.ref 186)⟩, ⟨(PyData.keyHash P (Str.ofString "remove_child")), (.str (Str.ofString "remove_child") 424), (.ref 194)⟩, ⟨(PyData.keyHash P (Str.ofString "schedule")), (.str (Str.ofString "schedule") 436), (.ref 201)⟩, ⟨(PyData.keyHash P (Str.ofString "__repr__")), (.str (Str.ofString "__repr__") 443), (.ref 208)⟩, ⟨(PyData.keyHash P (Str.ofString "__eq__")), (.str (Str.ofString "__eq__") 451), (.ref 215)⟩, ⟨(PyData.keyHash P (Str.ofString "__ne__")), (.str (Str.ofString "__ne__") 459), (.ref 222)⟩, ⟨(PyData.keyHash P (Str.ofString "__lt__")), (.str (Str.ofString "__lt__") 467), (.ref 229)⟩, ⟨(PyData.keyHash P (Str.ofString "__le__")), (.str (Str.ofString "__le__") 475), (.ref 236)⟩, ⟨(PyData.keyHash P (Str.ofString "__gt__")), (.str (Str.ofString "__gt__") 483), (.ref 243)⟩, ⟨(PyData.keyHash P (Str.ofString "__ge__")), (.str (Str.ofString "__ge__") 491), (.ref 250)⟩, ⟨(PyData.keyHash P (Str.ofString "__static_attributes__")), (.str (Str.ofString "__static_attributes__") 501), (.ref 251)⟩] 17), #[]⟩
noncomputable def o144_170 (P : Params) : Obj := ⟨(.type "tuple"), none, (.seq #[] 0), #[]⟩
noncomputable def o145_171 (P : Params) : Obj := ⟨.none, none, (.fields #[(.int 35 0), (.int 4 0), (.ref 154), (.int 46 0), (.int 4 0), (.ref 161), (.int 50 0), (.int 4 0), (.ref 170), (.int 57 0), (.int 4 0), (.ref 178), (.int 62 0), (.int 4 0), (.ref 185), (.int 71 0), (.int 4 0), (.ref 193), (.int 74 0), (.int 4 0), (.ref 200), (.int 98 0), (.int 4 0), (.ref 207), (.int 101 0), (.int 4 0), (.ref 214), (.int 106 0), (.int 4 0), (.ref 221), (.int 109 0), (.int 4 0), (.ref 228), (.int 114 0), (.int 4 0), (.ref 235), (.int 119 0), (.int 4 0), (.ref 242), (.int 124 0), (.int 4 0), (.ref 249)]), #[]⟩
noncomputable def o146_172 (P : Params) : Obj := ⟨(.type "code"), none, (.fields #[(.str (Str.ofString "Stream") 360), (.str (Str.ofString "Stream") 361), (.str (Str.ofString "/claim/cut.py") 362), (.int 33 0), (.int 0 0), (.int 0 0), (.int 0 0), (.int 0 0), (.ref 144), (.bool false), (.int 181 0), (.ref 145), .none, .none, .none, .none, (.int 363 0), (.int 33 0), (.str (Str.ofString "/claim/cut.py") 364)]), #[]⟩
noncomputable def o147_173 (P : Params) : Obj := ⟨(.type "frame"), none, .plain, #[(some (.ref 146)), (some (.ref 3)), (some (.ref 143)), none, (some (.str (Str.ofString "priority.priority") 220)), none, (some (.ref 0))]⟩
noncomputable def o148_174 (P : Params) : Obj := ⟨(.type "tuple"), none, (.seq #[(.int 16 370)] 0), #[]⟩
noncomputable def o149_175 (P : Params) : Obj := ⟨(.type "tuple"), none, (.seq #[] 0), #[]⟩
noncomputable def o150_176 (P : Params) : Obj := ⟨.none, none, (.fields #[]), #[]⟩
noncomputable def o151_177 (P : Params) : Obj := ⟨(.type "tuple"), none, (.seq #[(.str (Str.ofString "self") 374), (.str (Str.ofString "stream_id") 375), (.str (Str.ofString "weight") 376)] 0), #[]⟩
noncomputable def o152_178 (P : Params) : Obj := ⟨(.type "tuple"), none, (.seq #[] 0), #[]⟩
noncomputable def o153_179 (P : Params) : Obj := ⟨.none, none, (.func { name := (Str.ofString "__init__"), qualname := (Str.ofString "Stream.__init__"), params := (fnParams (stIn 14 0)), body := (.stmts (fnBody (stIn 14 0))), scope := (fnScope (stIn 14 0)), globals := 0, closure := [], defaults := .none, kwdefaults := .none, doc := .none, pyModule := .none, annotations := none, code := .none, closureTuple := .none, builtins := 0 }), #[]⟩
noncomputable def o154_180 (P : Params) : Obj := ⟨(.type "code"), none, (.fields #[(.str (Str.ofString "__init__") 371), (.str (Str.ofString "Stream.__init__") 372), (.str (Str.ofString "/claim/cut.py") 373), (.int 35 0), (.int 3 0), (.int 0 0), (.int 0 0), (.int 3 0), (.ref 149), (.bool true), (.int 181 0), (.ref 150), .none, (.ref 151), (.ref 152), (.ref 153), (.int 377 0), (.int 35 0), (.str (Str.ofString "/claim/cut.py") 378)]), #[]⟩
noncomputable def o155_181 (P : Params) : Obj := ⟨(.type "function"), none, (.func { name := (Str.ofString "__init__"), qualname := (Str.ofString "Stream.__init__"), params := (fnParams (stIn 14 0)), body := (.stmts (fnBody (stIn 14 0))), scope := (fnScope (stIn 14 0)), globals := 3, closure := [], defaults := (.ref 148), kwdefaults := .none, doc := .none, pyModule := (.str (Str.ofString "priority.priority") 220), annotations := none, code := (.ref 154), closureTuple := .none, builtins := 0 }), #[]⟩
noncomputable def o156_182 (P : Params) : Obj := ⟨(.type "tuple"), none, (.seq #[] 0), #[]⟩
noncomputable def o157_183 (P : Params) : Obj := ⟨.none, none, (.fields #[]), #[]⟩
noncomputable def o158_184 (P : Params) : Obj := ⟨(.type "tuple"), none, (.seq #[(.str (Str.ofString "self") 383)] 0), #[]⟩
noncomputable def o159_185 (P : Params) : Obj := ⟨(.type "tuple"), none, (.seq #[] 0), #[]⟩
noncomputable def o160_186 (P : Params) : Obj := ⟨.none, none, (.func { name := (Str.ofString "weight"), qualname := (Str.ofString "Stream.weight"), params := (fnParams (stIn 14 1)), body := (.stmts (fnBody (stIn 14 1))), scope := (fnScope (stIn 14 1)), globals := 0, closure := [], defaults := .none, kwdefaults := .none, doc := .none, pyModule := .none, annotations := none, code := .none, closureTuple := .none, builtins := 0 }), #[]⟩
noncomputable def o161_187 (P : Params) : Obj := ⟨(.type "code"), none, (.fields #[(.str (Str.ofString "weight") 380), (.str (Str.ofString "Stream.weight") 381), (.str (Str.ofString "/claim/cut.py") 382), (.int 45 0), (.int 1 0), (.int 0 0), (.int 0 0), (.int 3 0), (.ref 156), (.bool true), (.int 181 0), (.ref 157), .none, (.ref 158), (.ref 159), (.ref 160), (.int 384 0), (.int 45 0), (.str (Str.ofString "/claim/cut.py") 385)]), #[]⟩
noncomputable def o162_188 (P : Params) : Obj := ⟨(.type "function"), none, (.func { name := (Str.ofString "weight"), qualname := (Str.ofString "Stream.weight"), params := (fnParams (stIn 14 1)), body := (.stmts (fnBody (stIn 14 1))), scope := (fnScope (stIn 14 1)), globals := 3, closure := [], defaults := .none, kwdefaults := .none, doc := .none, pyModule := (.str (Str.ofString "priority.priority") 220), annotations := none, code := (.ref 161), closureTuple := .none, builtins := 0 }), #[]⟩
noncomputable def o163_189 (P : Params) : Obj := ⟨(.type "property"), none, (.fields #[(.ref 162), .none, .none, .none, (.int 0 0), (.bool false)]), #[]⟩
noncomputable def o164_190 (P : Params) : Obj := ⟨(.type "builtin_function_or_method"), none, (.fields #[(.builtin "property.setter"), (.ref 163)]), #[]⟩
noncomputable def o165_191 (P : Params) : Obj := ⟨(.type "tuple"), none, (.seq #[] 0), #[]⟩
noncomputable def o166_192 (P : Params) : Obj := ⟨.none, none, (.fields #[]), #[]⟩
noncomputable def o167_193 (P : Params) : Obj := ⟨(.type "tuple"), none, (.seq #[(.str (Str.ofString "self") 392), (.str (Str.ofString "value") 393)] 0), #[]⟩
noncomputable def o168_194 (P : Params) : Obj := ⟨(.type "tuple"), none, (.seq #[] 0), #[]⟩
noncomputable def o169_195 (P : Params) : Obj := ⟨.none, none, (.func { name := (Str.ofString "weight"), qualname := (Str.ofString "Stream.weight"), params := (fnParams (stIn 14 2)), body := (.stmts (fnBody (stIn 14 2))), scope := (fnScope (stIn 14 2)), globals := 0, closure := [], defaults := .none, kwdefaults := .none, doc := .none, pyModule := .none, annotations := none, code := .none, closureTuple := .none, builtins := 0 }), #[]⟩
noncomputable def o170_196 (P : Params) : Obj := ⟨(.type "code"), none, (.fields #[(.str (Str.ofString "weight") 389), (.str (Str.ofString "Stream.weight") 390), (.str (Str.ofString "/claim/cut.py") 391), (.int 49 0), (.int 2 0), (.int 0 0), (.int 0 0), (.int 3 0), (.ref 165), (.bool true), (.int 181 0), (.ref 166), .none, (.ref 167), (.ref 168), (.ref 169), (.int 394 0), (.int 49 0), (.str (Str.ofString "/claim/cut.py") 395)]), #[]⟩
noncomputable def o171_197 (P : Params) : Obj := ⟨(.type "function"), none, (.func { name := (Str.ofString "weight"), qualname := (Str.ofString "Stream.weight"), params := (fnParams (stIn 14 2)), body := (.stmts (fnBody (stIn 14 2))), scope := (fnScope (stIn 14 2)), globals := 3, closure := [], defaults := .none, kwdefaults := .none, doc := .none, pyModule := (.str (Str.ofString "priority.priority") 220), annotations := none, code := (.ref 170), closureTuple := .none, builtins := 0 }), #[]⟩
noncomputable def o172_198 (P : Params) : Obj := ⟨(.type "property"), none, (.fields #[(.ref 162), (.ref 171), .none, .none, (.str (Str.ofString "weight") 387), (.bool false)]), #[]⟩
noncomputable def o173_199 (P : Params) : Obj := ⟨(.type "tuple"), none, (.seq #[] 0), #[]⟩
noncomputable def o174_200 (P : Params) : Obj := ⟨.none, none, (.fields #[]), #[]⟩
noncomputable def o175_201 (P : Params) : Obj := ⟨(.type "tuple"), none, (.seq #[(.str (Str.ofString "self") 401), (.str (Str.ofString "child") 402)] 0), #[]⟩
noncomputable def o176_202 (P : Params) : Obj := ⟨(.type "tuple"), none, (.seq #[] 0), #[]⟩
noncomputable def o177_203 (P : Params) : Obj := ⟨.none, none, (.func { name := (Str.ofString "add_child"), qualname := (Str.ofString "Stream.add_child"), params := (fnParams (stIn 14 3)), body := (.stmts (fnBody (stIn 14 3))), scope := (fnScope (stIn 14 3)), globals := 0, closure := [], defaults := .none, kwdefaults := .none, doc := .none, pyModule := .none, annotations := none, code := .none, closureTuple := .none, builtins := 0 }), #[]⟩
noncomputable def o178_204 (P : Params) : Obj := ⟨(.type "code"), none, (.fields #[(.str (Str.ofString "add_child") 398), (.str (Str.ofString "Stream.add_child") 399), (.str (Str.ofString "/claim/cut.py") 400), (.int 57 0), (.int 2 0), (.int 0 0), (.int 0 0), (.int 3 0), (.ref 173), (.bool true), (.int 181 0), (.ref 174), .none, (.ref 175), (.ref 176), (.ref 177), (.int 403 0), (.int 57 0), (.str (Str.ofString "/claim/cut.py") 404)]), #[]⟩
noncomputable def o179_205 (P : Params) : Obj := ⟨(.type "function"), none, (.func { name := (Str.ofString "add_child"), qualname := (Str.ofString "Stream.add_child"), params := (fnParams (stIn 14 3)), body := (.stmts (fnBody (stIn 14 3))), scope := (fnScope (stIn 14 3)), globals := 3, closure := [], defaults := .none, kwdefaults := .none, doc := .none, pyModule := (.str (Str.ofString "priority.priority") 220), annotations := none, code := (.ref 178), closureTuple := .none, builtins := 0 }), #[]⟩
noncomputable def o180_206 (P : Params) : Obj := ⟨(.type "tuple"), none, (.seq #[] 0), #[]⟩
noncomputable def o181_207 (P : Params) : Obj := ⟨.none, none, (.fields #[]), #[]⟩
noncomputable def o182_208 (P : Params) : Obj := ⟨(.type "tuple"), none, (.seq #[(.str (Str.ofString "self") 409), (.str (Str.ofString "child") 410), (.str (Str.ofString "old_children") 411), (.str (Str.ofString "old_child") 412)] 0), #[]⟩
noncomputable def o183_209 (P : Params) : Obj := ⟨(.type "tuple"), none, (.seq #[] 0), #[]⟩
noncomputable def o184_210 (P : Params) : Obj := ⟨.none, none, (.func { name := (Str.ofString "add_child_exclusive"), qualname := (Str.ofString "Stream.add_child_exclusive"), params := (fnParams (stIn 14 4)), body := (.stmts (fnBody (stIn 14 4))), scope := (fnScope (stIn 14 4)), globals := 0, closure := [], defaults := .none, kwdefaults := .none, doc := .none, pyModule := .none, annotations := none, code := .none, closureTuple := .none, builtins := 0 }), #[]⟩
noncomputable def o185_211 (P : Params) : Obj := ⟨(.type "code"), none, (.fields #[(.str (Str.ofString "add_child_exclusive") 406), (.str (Str.ofString "Stream.add_child_exclusive") 407), (.str (Str.ofString "/claim/cut.py") 408), (.int 62 0), (.int 2 0), (.int 0 0), (.int 0 0), (.int 3 0), (.ref 180), (.bool true), (.int 181 0), (.ref 181), .none, (.ref 182), (.ref 183), (.ref 184), (.int 413 0), (.int 62 0), (.str (Str.ofString "/claim/cut.py") 414)]), #[]⟩
noncomputable def o186_212 (P : Params) : Obj := ⟨(.type "function"), none, (.func { name := (Str.ofString "add_child_exclusive"), qualname := (Str.ofString "Stream.add_child_exclusive"), params := (fnParams (stIn 14 4)), body := (.stmts (fnBody (stIn 14 4))), scope := (fnScope (stIn 14 4)), globals := 3, closure := [], defaults := .none, kwdefaults := .none, doc := .none, pyModule := (.str (Str.ofString "priority.priority") 220), annotations := none, code := (.ref 185), closureTuple := .none, builtins := 0 }), #[]⟩
noncomputable def o187_213 (P : Params) : Obj := ⟨(.type "tuple"), none, (.seq #[(.bool true)] 0), #[]⟩
noncomputable def o188_214 (P : Params) : Obj := ⟨(.type "tuple"), none, (.seq #[] 0), #[]⟩
noncomputable def o189_215 (P : Params) : Obj := ⟨.none, none, (.fields #[]), #[]⟩
noncomputable def o190_216 (P : Params) : Obj := ⟨(.type "tuple"), none, (.seq #[(.str (Str.ofString "self") 419), (.str (Str.ofString "child") 420), (.str (Str.ofString "strip_children") 421)] 0), #[]⟩
noncomputable def o191_217 (P : Params) : Obj := ⟨(.type "tuple"), none, (.seq #[] 0), #[]⟩
noncomputable def o192_218 (P : Params) : Obj := ⟨.none, none, (.func { name := (Str.ofString "remove_child"), qualname := (Str.ofString "Stream.remove_child"), params := (fnParams (stIn 14 5)), body := (.stmts (fnBody (stIn 14 5))), scope := (fnScope (stIn 14 5)), globals := 0, closure := [], defaults := .none, kwdefaults := .none, doc := .none, pyModule := .none, annotations := none, code := .none, closureTuple := .none, builtins := 0 }), #[]⟩
noncomputable def o193_219 (P : Params) : Obj := ⟨(.type "code"), none, (.fields #[(.str (Str.ofString "remove_child") 416), (.str (Str.ofString "Stream.remove_child") 417), (.str (Str.ofString "/claim/cut.py") 418), (.int 71 0), (.int 3 0), (.int 0 0), (.int 0 0), (.int 3 0), (.ref 188), (.bool true), (.int 181 0), (.ref 189), .none, (.ref 190), (.ref 191), (.ref 192), (.int 422 0), (.int 71 0), (.str (Str.ofString "/claim/cut.py") 423)]), #[]⟩
noncomputable def o194_220 (P : Params) : Obj := ⟨(.type "function"), none, (.func { name := (Str.ofString "remove_child"), qualname := (Str.ofString "Stream.remove_child"), params := (fnParams (stIn 14 5)), body := (.stmts (fnBody (stIn 14 5))), scope := (fnScope (stIn 14 5)), globals := 3, closure := [], defaults := (.ref 187), kwdefaults := .none, doc := .none, pyModule := (.str (Str.ofString "priority.priority") 220), annotations := none, code := (.ref 193), closureTuple := .none, builtins := 0 }), #[]⟩
noncomputable def o195_221 (P : Params) : Obj := ⟨(.type "tuple"), none, (.seq #[] 0), #[]⟩
noncomputable def o196_222 (P : Params) : Obj := ⟨.none, none, (.fields #[]), #[]⟩
noncomputable def o197_223 (P : Params) : Obj := ⟨(.type "tuple"), none, (.seq #[(.str (Str.ofString "self") 428), (.str (Str.ofString "next_stream") 429), (.str (Str.ofString "popped_streams") 430), (.str (Str.ofString "val") 431), (.str (Str.ofString "level") 432), (.str (Str.ofString "child") 433)] 0), #[]⟩
noncomputable def o198_224 (P : Params) : Obj := ⟨(.type "tuple"), none, (.seq #[] 0), #[]⟩
noncomputable def o199_225 (P : Params) : Obj := ⟨.none, none, (.func { name := (Str.ofString "schedule"), qualname := (Str.ofString "Stream.schedule"), params := (fnParams (stIn 14 6)), body := (.stmts (fnBody (stIn 14 6))), scope := (fnScope (stIn 14 6)), globals := 0, closure := [], defaults := .none, kwdefaults := .none, doc := .none, pyModule := .none, annotations := none, code := .none, closureTuple := .none, builtins := 0 }), #[]⟩
noncomputable def o200_226 (P : Params) : Obj := ⟨(.type "code"), none, (.fields #[(.str (Str.ofString "schedule") 425), (.str (Str.ofString "Stream.schedule") 426), (.str (Str.ofString "/claim/cut.py") 427), (.int 74 0), (.int 1 0), (.int 0 0), (.int 0 0), (.int 3 0), (.ref 195), (.bool true), (.int 181 0), (.ref 196), .none, (.ref 197), (.ref 198), (.ref 199), (.int 434 0), (.int 74 0), (.str (Str.ofString "/claim/cut.py") 435)]), #[]⟩
noncomputable def o201_227 (P : Params) : Obj := ⟨(.type "function"), none, (.func { name := (Str.ofString "schedule"), qualname := (Str.ofString "Stream.schedule"), params := (fnParams (stIn 14 6)), body := (.stmts (fnBody (stIn 14 6))), scope := (fnScope (stIn 14 6)), globals := 3, closure := [], defaults := .none, kwdefaults := .none, doc := .none, pyModule := (.str (Str.ofString "priority.priority") 220), annotations := none, code := (.ref 200), closureTuple := .none, builtins := 0 }), #[]⟩
noncomputable def o202_228 (P : Params) : Obj := ⟨(.type "tuple"), none, (.seq #[] 0), #[]⟩
noncomputable def o203_229 (P : Params) : Obj := ⟨.none, none, (.fields #[]), #[]⟩
noncomputable def o204_230 (P : Params) : Obj := ⟨(.type "tuple"), none, (.seq #[(.str (Str.ofString "self") 440)] 0), #[]⟩
noncomputable def o205_231 (P : Params) : Obj := ⟨(.type "tuple"), none, (.seq #[] 0), #[]⟩
noncomputable def o206_232 (P : Params) : Obj := ⟨.none, none, (.func { name := (Str.ofString "__repr__"), qualname := (Str.ofString "Stream.__repr__"), params := (fnParams (stIn 14 7)), body := (.stmts (fnBody (stIn 14 7))), scope := (fnScope (stIn 14 7)), globals := 0, closure := [], defaults := .none, kwdefaults := .none, doc := .none, pyModule := .none, annotations := none, code := .none, closureTuple := .none, builtins := 0 }), #[]⟩
noncomputable def o207_233 (P : Params) : Obj := ⟨(.type "code"), none, (.fields #[(.str (Str.ofString "__repr__") 437), (.str (Str.ofString "Stream.__repr__") 438), (.str (Str.ofString "/claim/cut.py") 439), (.int 98 0), (.int 1 0), (.int 0 0), (.int 0 0), (.int 3 0), (.ref 202), (.bool true), (.int 181 0), (.ref 203), .none, (.ref 204), (.ref 205), (.ref 206), (.int 441 0), (.int 98 0), (.str (Str.ofString "/claim/cut.py") 442)]), #[]⟩
noncomputable def o208_234 (P : Params) : Obj := ⟨(.type "function"), none, (.func { name := (Str.ofString "__repr__"), qualname := (Str.ofString "Stream.__repr__"), params := (fnParams (stIn 14 7)), body := (.stmts (fnBody (stIn 14 7))), scope := (fnScope (stIn 14 7)), globals := 3, closure := [], defaults := .none, kwdefaults := .none, doc := .none, pyModule := (.str (Str.ofString "priority.priority") 220), annotations := none, code := (.ref 207), closureTuple := .none, builtins := 0 }), #[]⟩
noncomputable def o209_235 (P : Params) : Obj := ⟨(.type "tuple"), none, (.seq #[] 0), #[]⟩
noncomputable def o210_236 (P : Params) : Obj := ⟨.none, none, (.fields #[]), #[]⟩
noncomputable def o211_237 (P : Params) : Obj := ⟨(.type "tuple"), none, (.seq #[(.str (Str.ofString "self") 447), (.str (Str.ofString "other") 448)] 0), #[]⟩
noncomputable def o212_238 (P : Params) : Obj := ⟨(.type "tuple"), none, (.seq #[] 0), #[]⟩
noncomputable def o213_239 (P : Params) : Obj := ⟨.none, none, (.func { name := (Str.ofString "__eq__"), qualname := (Str.ofString "Stream.__eq__"), params := (fnParams (stIn 14 8)), body := (.stmts (fnBody (stIn 14 8))), scope := (fnScope (stIn 14 8)), globals := 0, closure := [], defaults := .none, kwdefaults := .none, doc := .none, pyModule := .none, annotations := none, code := .none, closureTuple := .none, builtins := 0 }), #[]⟩
noncomputable def o214_240 (P : Params) : Obj := ⟨(.type "code"), none, (.fields #[(.str (Str.ofString "__eq__") 444), (.str (Str.ofString "Stream.__eq__") 445), (.str (Str.ofString "/claim/cut.py") 446), (.int 101 0), (.int 2 0), (.int 0 0), (.int 0 0), (.int 3 0), (.ref 209), (.bool true), (.int 181 0), (.ref 210), .none, (.ref 211), (.ref 212), (.ref 213), (.int 449 0), (.int 101 0), (.str (Str.ofString "/claim/cut.py") 450)]), #[]⟩
noncomputable def o215_241 (P : Params) : Obj := ⟨(.type "function"), none, (.func { name := (Str.ofString "__eq__"), qualname := (Str.ofString "Stream.__eq__"), params := (fnParams (stIn 14 8)), body := (.stmts (fnBody (stIn 14 8))), scope := (fnScope (stIn 14 8)), globals := 3, closure := [], defaults := .none, kwdefaults := .none, doc := .none, pyModule := (.str (Str.ofString "priority.priority") 220), annotations := none, code := (.ref 214), closureTuple := .none, builtins := 0 }), #[]⟩
noncomputable def o216_242 (P : Params) : Obj := ⟨(.type "tuple"), none, (.seq #[] 0), #[]⟩
noncomputable def o217_243 (P : Params) : Obj := ⟨.none, none, (.fields #[]), #[]⟩
noncomputable def o218_244 (P : Params) : Obj := ⟨(.type "tuple"), none, (.seq #[(.str (Str.ofString "self") 455), (.str (Str.ofString "other") 456)] 0), #[]⟩
noncomputable def o219_245 (P : Params) : Obj := ⟨(.type "tuple"), none, (.seq #[] 0), #[]⟩
noncomputable def o220_246 (P : Params) : Obj := ⟨.none, none, (.func { name := (Str.ofString "__ne__"), qualname := (Str.ofString "Stream.__ne__"), params := (fnParams (stIn 14 9)), body := (.stmts (fnBody (stIn 14 9))), scope := (fnScope (stIn 14 9)), globals := 0, closure := [], defaults := .none, kwdefaults := .none, doc := .none, pyModule := .none, annotations := none, code := .none, closureTuple := .none, builtins := 0 }), #[]⟩
noncomputable def o221_247 (P : Params) : Obj := ⟨(.type "code"), none, (.fields #[(.str (Str.ofString "__ne__") 452), (.str (Str.ofString "Stream.__ne__") 453), (.str (Str.ofString "/claim/cut.py") 454), (.int 106 0), (.int 2 0), (.int 0 0), (.int 0 0), (.int 3 0), (.ref 216), (.bool true), (.int 181 0), (.ref 217), .none, (.ref 218), (.ref 219), (.ref 220), (.int 457 0), (.int 106 0), (.str (Str.ofString "/claim/cut.py") 458)]), #[]⟩
noncomputable def o222_248 (P : Params) : Obj := ⟨(.type "function"), none, (.func { name := (Str.ofString "__ne__"), qualname := (Str.ofString "Stream.__ne__"), params := (fnParams (stIn 14 9)), body := (.stmts (fnBody (stIn 14 9))), scope := (fnScope (stIn 14 9)), globals := 3, closure := [], defaults := .none, kwdefaults := .none, doc := .none, pyModule := (.str (Str.ofString "priority.priority") 220), annotations := none, code := (.ref 221), closureTuple := .none, builtins := 0 }), #[]⟩
noncomputable def o223_249 (P : Params) : Obj := ⟨(.type "tuple"), none, (.seq #[] 0), #[]⟩
noncomputable def o224_250 (P : Params) : Obj := ⟨.none, none, (.fields #[]), #[]⟩
noncomputable def o225_251 (P : Params) : Obj := ⟨(.type "tuple"), none, (.seq #[(.str (Str.ofString "self") 463), (.str (Str.ofString "other") 464)] 0), #[]⟩
noncomputable def o226_252 (P : Params) : Obj := ⟨(.type "tuple"), none, (.seq #[] 0), #[]⟩
noncomputable def o227_253 (P : Params) : Obj := ⟨.none, none, (.func { name := (Str.ofString "__lt__"), qualname := (Str.ofString "Stream.__lt__"), params := (fnParams (stIn 14 10)), body := (.stmts (fnBody (stIn 14 10))), scope := (fnScope (stIn 14 10)), globals := 0, closure := [], defaults := .none, kwdefaults := .none, doc := .none, pyModule := .none, annotations := none, code := .none, closureTuple := .none, builtins := 0 }), #[]⟩
noncomputable def o228_254 (P : Params) : Obj := ⟨(.type "code"), none, (.fields #[(.str (Str.ofString "__lt__") 460), (.str (Str.ofString "Stream.__lt__") 461), (.str (Str.ofString "/claim/cut.py") 462), (.int 109 0), (.int 2 0), (.int 0 0), (.int 0 0), (.int 3 0), (.ref 223), (.bool true), (.int 181 0), (.ref 224), .none, (.ref 225), (.ref 226), (.ref 227), (.int 465 0), (.int 109 0), (.str (Str.ofString "/claim/cut.py") 466)]), #[]⟩
noncomputable def o229_255 (P : Params) : Obj := ⟨(.type "function"), none, (.func { name := (Str.ofString "__lt__"), qualname := (Str.ofString "Stream.__lt__"), params := (fnParams (stIn 14 10)), body := (.stmts (fnBody (stIn 14 10))), scope := (fnScope (stIn 14 10)), globals := 3, closure := [], defaults := .none, kwdefaults := .none, doc := .none, pyModule := (.str (Str.ofString "priority.priority") 220), annotations := none, code := (.ref 228), closureTuple := .none, builtins := 0 }), #[]⟩
noncomputable def o230_256 (P : Params) : Obj := ⟨(.type "tuple"), none, (.seq #[] 0), #[]⟩
noncomputable def o231_257 (P : Params) : Obj := ⟨.none, none, (.fields #[]), #[]⟩
noncomputable def o232_258 (P : Params) : Obj := ⟨(.type "tuple"), none, (.seq #[(.str (Str.ofString "self") 471), (.str (Str.ofString "other") 472)] 0), #[]⟩
noncomputable def o233_259 (P : Params) : Obj := ⟨(.type "tuple"), none, (.seq #[] 0), #[]⟩
noncomputable def o234_260 (P : Params) : Obj := ⟨.none, none, (.func { name := (Str.ofString "__le__"), qualname := (Str.ofString "Stream.__le__"), params := (fnParams (stIn 14 11)), body := (.stmts (fnBody (stIn 14 11))), scope := (fnScope (stIn 14 11)), globals := 0, closure := [], defaults := .none, kwdefaults := .none, doc := .none, pyModule := .none, annotations := none, code := .none, closureTuple := .none, builtins := 0 }), #[]⟩
noncomputable def o235_261 (P : Params) : Obj := ⟨(.type "code"), none, (.fields #[(.str (Str.ofString "__le__") 468), (.str (Str.ofString "Stream.__le__") 469), (.str (Str.ofString "/claim/cut.py") 470), (.int 114 0), (.int 2 0), (.int 0 0), (.int 0 0), (.int 3 0), (.ref 230), (.bool true), (.int 181 0), (.ref 231), .none, (.ref 232), (.ref 233), (.ref 234), (.int 473 0), (.int 114 0), (.str (Str.ofString "/claim/cut.py") 474)]), #[]⟩
noncomputable def o236_262 (P : Params) : Obj := ⟨(.type "function"), none, (.func { name := (Str.ofString "__le__"), qualname := (Str.ofString "Stream.__le__"), params := (fnParams (stIn 14 11)), body := (.stmts (fnBody (stIn 14 11))), scope := (fnScope (stIn 14 11)), globals := 3, closure := [], defaults := .none, kwdefaults := .none, doc := .none, pyModule := (.str (Str.ofString "priority.priority") 220), annotations := none, code := (.ref 235), closureTuple := .none, builtins := 0 }), #[]⟩
noncomputable def o237_263 (P : Params) : Obj := ⟨(.type "tuple"), none, (.seq #[] 0), #[]⟩
noncomputable def o238_264 (P : Params) : Obj := ⟨.none, none, (.fields #[]), #[]⟩
noncomputable def o239_265 (P : Params) : Obj := ⟨(.type "tuple"), none, (.seq #[(.str (Str.ofString "self") 479), (.str (Str.ofString "other") 480)] 0), #[]⟩
noncomputable def o240_266 (P : Params) : Obj := ⟨(.type "tuple"), none, (.seq #[] 0), #[]⟩
noncomputable def o241_267 (P : Params) : Obj := ⟨.none, none, (.func { name := (Str.ofString "__gt__"), qualname := (Str.ofString "Stream.__gt__"), params := (fnParams (stIn 14 12)), body := (.stmts (fnBody (stIn 14 12))), scope := (fnScope (stIn 14 12)), globals := 0, closure := [], defaults := .none, kwdefaults := .none, doc := .none, pyModule := .none, annotations := none, code := .none, closureTuple := .none, builtins := 0 }), #[]⟩
noncomputable def o242_268 (P : Params) : Obj := ⟨(.type "code"), none, (.fields #[(.str (Str.ofString "__gt__") 476), (.str (Str.ofString "Stream.__gt__") 477), (.str (Str.ofString "/claim/cut.py") 478), (.int 119 0), (.int 2 0), (.int 0 0), (.int 0 0), (.int 3 0), (.ref 237), (.bool true), (.int 181 0), (.ref 238), .none, (.ref 239), (.ref 240), (.ref 241), (.int 481 0), (.int 119 0), (.str (Str.ofString "/claim/cut.py") 482)]), #[]⟩
noncomputable def o243_269 (P : Params) : Obj := ⟨(.type "function"), none, (.func { name := (Str.ofString "__gt__"), qualname := (Str.ofString "Stream.__gt__"), params := (fnParams (stIn 14 12)), body := (.stmts (fnBody (stIn 14 12))), scope := (fnScope (stIn 14 12)), globals := 3, closure := [], defaults := .none, kwdefaults := .none, doc := .none, pyModule := (.str (Str.ofString "priority.priority") 220), annotations := none, code := (.ref 242), closureTuple := .none, builtins := 0 }), #[]⟩
noncomputable def o244_270 (P : Params) : Obj := ⟨(.type "tuple"), none, (.seq #[] 0), #[]⟩
noncomputable def o245_271 (P : Params) : Obj := ⟨.none, none, (.fields #[]), #[]⟩
noncomputable def o246_272 (P : Params) : Obj := ⟨(.type "tuple"), none, (.seq #[(.str (Str.ofString "self") 487), (.str (Str.ofString "other") 488)] 0), #[]⟩
noncomputable def o247_273 (P : Params) : Obj := ⟨(.type "tuple"), none, (.seq #[] 0), #[]⟩
noncomputable def o248_274 (P : Params) : Obj := ⟨.none, none, (.func { name := (Str.ofString "__ge__"), qualname := (Str.ofString "Stream.__ge__"), params := (fnParams (stIn 14 13)), body := (.stmts (fnBody (stIn 14 13))), scope := (fnScope (stIn 14 13)), globals := 0, closure := [], defaults := .none, kwdefaults := .none, doc := .none, pyModule := .none, annotations := none, code := .none, closureTuple := .none, builtins := 0 }), #[]⟩
noncomputable def o249_275 (P : Params) : Obj := ⟨(.type "code"), none, (.fields #[(.str (Str.ofString "__ge__") 484), (.str (Str.ofString "Stream.__ge__") 485), (.str (Str.ofString "/claim/cut.py") 486), (.int 124 0), (.int 2 0), (.int 0 0), (.int 0 0), (.int 3 0), (.ref 244), (.bool true), (.int 181 0), (.ref 245), .none, (.ref 246), (.ref 247), (.ref 248), (.int 489 0), (.int 124 0), (.str (Str.ofString "/claim/cut.py") 490)]), #[]⟩
noncomputable def o250_276 (P : Params) : Obj := ⟨(.type "function"), none, (.func { name := (Str.ofString "__ge__"), qualname := (Str.ofString "Stream.__ge__"), params := (fnParams (stIn 14 13)), body := (.stmts (fnBody (stIn 14 13))), scope := (fnScope (stIn 14 13)), globals := 3, closure := [], defaults := .none, kwdefaults := .none, doc := .none, pyModule := (.str (Str.ofString "priority.priority") 220), annotations := none, code := (.ref 249), closureTuple := .none, builtins := 0 }), #[]⟩
noncomputable def o251_277 (P : Params) : Obj := ⟨(.type "tuple"), none, (.seq #[(.str (Str.ofString "_deficit") 492), (.str (Str.ofString "_weight") 493), (.str (Str.ofString "active") 494), (.str (Str.ofString "child_queue") 495), (.str (Str.ofString "children") 496), (.str (Str.ofString "last_weight") 497), (.str (Str.ofString "parent") 498), (.str (Str.ofString "stream_id") 499), (.str (Str.ofString "weight") 500)] 0), #[]⟩
noncomputable def o252_278 (P : Params) : Obj := ⟨(.type "dict"), none, (.dict #[⟨(PyData.keyHash P (Str.ofString "__module__")), (.str (Str.ofString "__module__") 365), (.str (Str.ofString "priority.priority") 220)⟩, ⟨(PyData.keyHash P (Str.ofString "__firstlineno__")), (.str (Str.ofString "__firstlineno__") 369), (.int 33 368)⟩, ⟨(PyData.keyHash P (Str.ofString "__init__")), (.str (Str.ofString "__init__") 379), (.ref 155)⟩, ⟨(PyData.keyHash P (Str.ofString "weight")), (.str (Str.ofString "weight") 387), (.ref 172)⟩, ⟨(PyData.keyHash P (Str.ofString "add_child")), (.str (Str.ofString "add_child") 405), (.ref 179)⟩, ⟨(PyData.keyHash P (Str.ofString "add_child_exclusive")), (.str (Str.ofString "add_child_exclusive") 415), (.ref 186)⟩, ⟨(PyData.keyHash P (Str.ofString "remove_child")), (.str (Str.ofString "remove_child") 424), (.ref 194)⟩, ⟨(PyData.keyHash P (Str.ofString "schedule")), (.str (Str.ofString "schedule") 436), (.ref 201)⟩, ⟨(PyData.keyHash P (Str.ofString "__repr__")), (.str (Str.ofString "__repr__") 443), (.ref 208)⟩, ⟨(PyData.keyHash P (Str.ofString "__eq__")), (.str (Str.ofString "__eq__") 451), (.ref 215)⟩, ⟨(PyData.keyHash P (Str.ofString "__ne__")), (.str (Str.ofString "__ne__") 459), (.ref 222)⟩, ⟨(PyData.keyHash P (Str.ofString "__lt__")), (.str (Str.ofString "__lt__") 467), (.ref 229)⟩, ⟨(PyData.keyHash P (Str.ofString "__le__")), (.str (Str.ofString "__le__") 475), (.ref 236)⟩, ⟨(PyData.keyHash P (Str.ofString "__gt__")), (.str (Str.ofString "__gt__") 483), (.ref 243)⟩, ⟨(PyData.keyHash P (Str.ofString "__ge__")), (.str (Str.ofString "__ge__") 491), (.ref 250)⟩, ⟨(PyData.keyHash P (Str.ofString "__static_attributes__")), (.str (Str.ofString "__static_attributes__") 501), (.ref 251)⟩, ⟨(PyData.keyHash P (Str.ofString "__dict__")), (.str (Str.ofString "__dict__") 503), (.ref 254)⟩, ⟨(PyData.keyHash P (Str.ofString "__weakref__")), (.str (Str.ofString "__weakref__") 505), (.ref 255)⟩, ⟨(PyData.keyHash P (Str.ofString "__doc__")), (.str (Str.ofString "__doc__") 506), .none⟩, ⟨(PyData.keyHash P (Str.ofString "__hash__")), (.str (Str.ofString "__hash__") 507), .none⟩] 5), #[]⟩
noncomputable def o253_279 (P : Params) : Obj := ⟨(.type "type"), none, (.cls { name := (Str.ofString "Stream"), bases := [(.type "object")], mro := [(.ref 253), (.type "object")], ns := 252, qualname := (Str.ofString "Stream"), hasDict := true, slotNames := [], subclasses := [], abstract := false, collection := none, hasDel := false }), #[none, none, (some (.str (Str.ofString "Stream") 358)), (some (.str (Str.ofString "Stream") 366)), (some (.builtin "object.__new__")), (some (.bool true))]⟩
noncomputable def o254_280 (P : Params) : Obj := ⟨(.type "getset_descriptor"), none, (.fields #[(.str (Str.ofString "__dict__") 502), (.ref 253), (.builtin "function.__dict__"), (.builtin "function.__dict__#set")]), #[]⟩
noncomputable def o255_281 (P : Params) : Obj := ⟨(.type "getset_descriptor"), none, (.fields #[(.str (Str.ofString "__weakref__") 504), (.ref 253), (.builtin "ExceptionGroup.__weakref__"), .none]), #[]⟩
noncomputable def o256_282 (P : Params) : Obj := ⟨(.type "super"), none, (.fields #[(.ref 253), (.ref 253), (.ref 253)]), #[]⟩
noncomputable def o257_283 (P : Params) : Obj := ⟨(.type "builtin_function_or_method"), none, (.fields #[(.builtin "object.__init_subclass__"), (.ref 253)]), #[]⟩
noncomputable def tr14 (P : Params) : BT := (.node (boot_o_0 P) (.node (boot_o_1 P) (.node (o3_165 P) (.node (boot_o_7 P) (.node (o15_6 P) (.node (o31_27 P) (.node (o63_68 P) (.node (o127_148 P) (.node (o255_281 P) .nil .nil) .nil) (.node (o191_217 P) .nil .nil)) (.node (o95_110 P) (.node (o159_185 P) .nil .nil) (.node (o223_249 P) .nil .nil))) (.node (o47_49 P) (.node (o79_87 P) (.node (o143_169 P) .nil .nil) (.node (o207_233 P) .nil .nil)) (.node (o111_129 P) (.node (o175_201 P) .nil .nil) (.node (o239_265 P) .nil .nil)))) (.node (o23_17 P) (.node (o39_37 P) (.node (o71_79 P) (.node (o135_159 P) .nil .nil) (.node (o199_225 P) .nil .nil)) (.node (o103_118 P) (.node (o167_193 P) .nil .nil) (.node (o231_257 P) .nil .nil))) (.node (o55_57 P) (.node (o87_98 P) (.node (o151_177 P) .nil .nil) (.node (o215_241 P) .nil .nil)) (.node (o119_140 P) (.node (o183_209 P) .nil .nil) (.node (o247_273 P) .nil .nil))))) (.node (o11_0 P) (.node (o19_10 P) (.node (o35_31 P) (.node (o67_72 P) (.node (o131_155 P) .nil .nil) (.node (o195_221 P) .nil .nil)) (.node (o99_114 P) (.node (o163_189 P) .nil .nil) (.node (o227_253 P) .nil .nil))) (.node (o51_53 P) (.node (o83_94 P) (.node (o147_173 P) .nil .nil) (.node (o211_237 P) .nil .nil)) (.node (o115_133 P) (.node (o179_205 P) .nil .nil) (.node (o243_269 P) .nil .nil)))) (.node (o27_21 P) (.node (o43_45 P) (.node (o75_83 P) (.node (o139_163 P) .nil .nil) (.node (o203_229 P) .nil .nil)) (.node (o107_125 P) (.node (o171_197 P) .nil .nil) (.node (o235_261 P) .nil .nil))) (.node (o59_64 P) (.node (o91_102 P) (.node (o155_181 P) .nil .nil) (.node (o219_245 P) .nil .nil)) (.node (o123_144 P) (.node (o187_213 P) .nil .nil) (.node (o251_277 P) .nil .nil)))))) (.node (boot_o_5 P) (.node (boot_o_9 P) (.node (o17_8 P) (.node (o33_29 P) (.node (o65_70 P) (.node (o129_153 P) (.node (o257_283 P) .nil .nil) .nil) (.node (o193_219 P) .nil .nil)) (.node (o97_112 P) (.node (o161_187 P) .nil .nil) (.node (o225_251 P) .nil .nil))) (.node (o49_51 P) (.node (o81_92 P) (.node (o145_171 P) .nil .nil) (.node (o209_235 P) .nil .nil)) (.node (o113_131 P) (.node (o177_203 P) .nil .nil) (.node (o241_267 P) .nil .nil)))) (.node (o25_19 P) (.node (o41_39 P) (.node (o73_81 P) (.node (o137_161 P) .nil .nil) (.node (o201_227 P) .nil .nil)) (.node (o105_123 P) (.node (o169_195 P) .nil .nil) (.node (o233_259 P) .nil .nil))) (.node (o57_62 P) (.node (o89_100 P) (.node (o153_179 P) .nil .nil) (.node (o217_243 P) .nil .nil)) (.node (o121_142 P) (.node (o185_211 P) .nil .nil) (.node (o249_275 P) .nil .nil))))) (.node (o13_2 P) (.node (o21_12 P) (.node (o37_35 P) (.node (o69_77 P) (.node (o133_157 P) .nil .nil) (.node (o197_223 P) .nil .nil)) (.node (o101_116 P) (.node (o165_191 P) .nil .nil) (.node (o229_255 P) .nil .nil))) (.node (o53_55 P) (.node (o85_96 P) (.node (o149_175 P) .nil .nil) (.node (o213_239 P) .nil .nil)) (.node (o117_138 P) (.node (o181_207 P) .nil .nil) (.node (o245_271 P) .nil .nil)))) (.node (o29_25 P) (.node (o45_47 P) (.node (o77_85 P) (.node (o141_167 P) .nil .nil) (.node (o205_231 P) .nil .nil)) (.node (o109_127 P) (.node (o173_199 P) .nil .nil) (.node (o237_263 P) .nil .nil))) (.node (o61_66 P) (.node (o93_108 P) (.node (o157_183 P) .nil .nil) (.node (o221_247 P) .nil .nil)) (.node (o125_146 P) (.node (o189_215 P) .nil .nil) (.node (o253_279 P) .nil .nil))))))) (.node (o2_103 P) (.node (boot_o_4 P) (.node (boot_o_8 P) (.node (o16_7 P) (.node (o32_28 P) (.node (o64_69 P) (.node (o128_149 P) (.node (o256_282 P) .nil .nil) .nil) (.node (o192_218 P) .nil .nil)) (.node (o96_111 P) (.node (o160_186 P) .nil .nil) (.node (o224_250 P) .nil .nil))) (.node (o48_50 P) (.node (o80_91 P) (.node (o144_170 P) .nil .nil) (.node (o208_234 P) .nil .nil)) (.node (o112_130 P) (.node (o176_202 P) .nil .nil) (.node (o240_266 P) .nil .nil)))) (.node (o24_18 P) (.node (o40_38 P) (.node (o72_80 P) (.node (o136_160 P) .nil .nil) (.node (o200_226 P) .nil .nil)) (.node (o104_119 P) (.node (o168_194 P) .nil .nil) (.node (o232_258 P) .nil .nil))) (.node (o56_61 P) (.node (o88_99 P) (.node (o152_178 P) .nil .nil) (.node (o216_242 P) .nil .nil)) (.node (o120_141 P) (.node (o184_210 P) .nil .nil) (.node (o248_274 P) .nil .nil))))) (.node (o12_166 P) (.node (o20_11 P) (.node (o36_34 P) (.node (o68_76 P) (.node (o132_156 P) .nil .nil) (.node (o196_222 P) .nil .nil)) (.node (o100_115 P) (.node (o164_190 P) .nil .nil) (.node (o228_254 P) .nil .nil))) (.node (o52_152 P) (.node (o84_95 P) (.node (o148_174 P) .nil .nil) (.node (o212_238 P) .nil .nil)) (.node (o116_134 P) (.node (o180_206 P) .nil .nil) (.node (o244_270 P) .nil .nil)))) (.node (o28_22 P) (.node (o44_46 P) (.node (o76_84 P) (.node (o140_164 P) .nil .nil) (.node (o204_230 P) .nil .nil)) (.node (o108_126 P) (.node (o172_198 P) .nil .nil) (.node (o236_262 P) .nil .nil))) (.node (o60_65 P) (.node (o92_107 P) (.node (o156_182 P) .nil .nil) (.node (o220_246 P) .nil .nil)) (.node (o124_145 P) (.node (o188_214 P) .nil .nil) (.node (o252_278 P) .nil .nil)))))) (.node (boot_o_6 P) (.node (boot_o_10 P) (.node (o18_9 P) (.node (o34_30 P) (.node (o66_71 P) (.node (o130_154 P) .nil .nil) (.node (o194_220 P) .nil .nil)) (.node (o98_113 P) (.node (o162_188 P) .nil .nil) (.node (o226_252 P) .nil .nil))) (.node (o50_52 P) (.node (o82_93 P) (.node (o146_172 P) .nil .nil) (.node (o210_236 P) .nil .nil)) (.node (o114_132 P) (.node (o178_204 P) .nil .nil) (.node (o242_268 P) .nil .nil)))) (.node (o26_20 P) (.node (o42_40 P) (.node (o74_82 P) (.node (o138_162 P) .nil .nil) (.node (o202_228 P) .nil .nil)) (.node (o106_124 P) (.node (o170_196 P) .nil .nil) (.node (o234_260 P) .nil .nil))) (.node (o58_63 P) (.node (o90_101 P) (.node (o154_180 P) .nil .nil) (.node (o218_244 P) .nil .nil)) (.node (o122_143 P) (.node (o186_212 P) .nil .nil) (.node (o250_276 P) .nil .nil))))) (.node (o14_3 P) (.node (o22_16 P) (.node (o38_36 P) (.node (o70_78 P) (.node (o134_158 P) .nil .nil) (.node (o198_224 P) .nil .nil)) (.node (o102_117 P) (.node (o166_192 P) .nil .nil) (.node (o230_256 P) .nil .nil))) (.node (o54_56 P) (.node (o86_97 P) (.node (o150_176 P) .nil .nil) (.node (o214_240 P) .nil .nil)) (.node (o118_139 P) (.node (o182_208 P) .nil .nil) (.node (o246_272 P) .nil .nil)))) (.node (o30_26 P) (.node (o46_48 P) (.node (o78_86 P) (.node (o142_168 P) .nil .nil) (.node (o206_232 P) .nil .nil)) (.node (o110_128 P) (.node (o174_200 P) .nil .nil) (.node (o238_264 P) .nil .nil))) (.node (o62_67 P) (.node (o94_109 P) (.node (o158_184 P) .nil .nil) (.node (o222_248 P) .nil .nil)) (.node (o126_147 P) (.node (o190_216 P) .nil .nil) (.node (o254_280 P) .nil .nil))))))))
noncomputable def S14 (w : World) (os : OsState) : SharedT := ⟨tr14 w.params, 258, lifeH, ⟨[]⟩, ⟨0, 0, 0, 0⟩, 510, os⟩
noncomputable def o3_284 (P : Params) : Obj := ⟨(.type "dict"), none, (.dict #[⟨(PyData.keyHash P (Str.ofString "__name__")), (.str (Str.ofString "__name__") 165), (.str (Str.ofString "priority.priority") 220)⟩, ⟨(PyData.keyHash P (Str.ofString "__doc__")), (.str (Str.ofString "__doc__") 166), .none⟩, ⟨(PyData.keyHash P (Str.ofString "__package__")), (.str (Str.ofString "__package__") 167), .none⟩, ⟨(PyData.keyHash P (Str.ofString "__loader__")), (.str (Str.ofString "__loader__") 168), (.builtin "__main__.__loader__#opaque")⟩, ⟨(PyData.keyHash P (Str.ofString "__spec__")), (.str (Str.ofString "__spec__") 169), .none⟩, ⟨(PyData.keyHash P (Str.ofString "__annotations__")), (.str (Str.ofString "__annotations__") 170), (.ref 6)⟩, ⟨(PyData.keyHash P (Str.ofString "__builtins__")), (.str (Str.ofString "__builtins__") 171), (.ref 4)⟩, ⟨(PyData.keyHash P (Str.ofString "__file__")), (.str (Str.ofString "__file__") 173), (.str (Str.ofString "/claim/cut.py") 172)⟩, ⟨(PyData.keyHash P (Str.ofString "__cached__")), (.str (Str.ofString "__cached__") 174), .none⟩, ⟨(PyData.keyHash P (Str.ofString "_wall")), (.str (Str.ofString "_wall") 193), (.ref 21)⟩, ⟨(PyData.keyHash P (Str.ofString "_ahead")), (.str (Str.ofString "_ahead") 203), (.ref 28)⟩, ⟨(PyData.keyHash P (Str.ofString "heappush")), (.str (Str.ofString "heappush") 212), (.ref 35)⟩, ⟨(PyData.keyHash P (Str.ofString "heappop")), (.str (Str.ofString "heappop") 219), (.ref 42)⟩, ⟨(PyData.keyHash P (Str.ofString "PriorityError")), (.str (Str.ofString "PriorityError") 241), (.ref 52)⟩, ⟨(PyData.keyHash P (Str.ofString "DeadlockError")), (.str (Str.ofString "DeadlockError") 257), (.ref 65)⟩, ⟨(PyData.keyHash P (Str.ofString "PriorityLoop")), (.str (Str.ofString "PriorityLoop") 273), (.ref 77)⟩, ⟨(PyData.keyHash P (Str.ofString "DuplicateStreamError")), (.str (Str.ofString "DuplicateStreamError") 289), (.ref 89)⟩, ⟨(PyData.keyHash P (Str.ofString "MissingStreamError")), (.str (Str.ofString "MissingStreamError") 309), (.ref 101)⟩, ⟨(PyData.keyHash P (Str.ofString "TooManyStreamsError")), (.str (Str.ofString "TooManyStreamsError") 325), (.ref 114)⟩, ⟨(PyData.keyHash P (Str.ofString "BadWeightError")), (.str (Str.ofString "BadWeightError") 341), (.ref 126)⟩, ⟨(PyData.keyHash P (Str.ofString "PseudoStreamError")), (.str (Str.ofString "PseudoStreamError") 357), (.ref 138)⟩, ⟨(PyData.keyHash P (Str.ofString "Stream")), (.str (Str.ofString "Stream") 509), (.ref 253)⟩, ⟨(PyData.keyHash P (Str.ofString "PriorityTree")), (.str (Str.ofString "PriorityTree") 630), (.ref 347)⟩] 23), #[]⟩
noncomputable def o12_285 (P : Params) : Obj := ⟨.none, none, (.fields #[(.int 1 0), (.int 0 0), (.ref 20), (.int 5 0), (.int 0 0), (.ref 27), (.int 9 0), (.int 0 0), (.ref 34), (.int 14 0), (.int 0 0), (.ref 41), (.int 17 0), (.int 0 0), (.ref 48), (.int 19 0), (.int 0 0), (.ref 61), (.int 21 0), (.int 0 0), (.ref 73), (.int 23 0), (.int 0 0), (.ref 85), (.int 25 0), (.int 0 0), (.ref 97), (.int 27 0), (.int 0 0), (.ref 110), (.int 29 0), (.int 0 0), (.ref 122), (.int 31 0), (.int 0 0), (.ref 134), (.int 33 0), (.int 0 0), (.ref 146), (.int 128 0), (.int 0 0), (.ref 263)]), #[]⟩
noncomputable def o258_286 (P : Params) : Obj := ⟨(.type "tuple"), none, (.seq #[] 0), #[]⟩
noncomputable def o259_287 (P : Params) : Obj := ⟨(.type "builtin_function_or_method"), none, (.fields #[(.builtin "type.__prepare__"), (.type "type")]), #[]⟩
noncomputable def o260_288 (P : Params) : Obj := ⟨(.type "dict"), none, (.dict #[⟨(PyData.keyHash P (Str.ofString "__module__")), (.str (Str.ofString "__module__") 517), (.str (Str.ofString "priority.priority") 220)⟩, ⟨(PyData.keyHash P (Str.ofString "__qualname__")), (.str (Str.ofString "__qualname__") 519), (.str (Str.ofString "PriorityTree") 518)⟩, ⟨(PyData.keyHash P (Str.ofString "__firstlineno__")), (.str (Str.ofString "__firstlineno__") 521), (.int 128 520)⟩, ⟨(PyData.keyHash P (Str.ofString "__init__")), (.str (Str.ofString "__init__") 530), (.ref 272)⟩, ⟨(PyData.keyHash P (Str.ofString "_get_or_insert_parent")), (.str (Str.ofString "_get_or_insert_parent") 538), (.ref 279)⟩, ⟨(PyData.keyHash P (Str.ofString "_exclusive_insert")), (.str (Str.ofString "_exclusive_insert") 547), (.ref 286)⟩, ⟨(PyData.keyHash P (Str.ofString "insert_stream")), (.str (Str.ofString "insert_stream") 562), (.ref 294)⟩, ⟨(PyData.keyHash P (Str.ofString "reprioritize")), (.str (Str.ofString "reprioritize") 574), (.ref 302)⟩, ⟨(PyData.keyHash P (Str.ofString "remove_stream")), (.str (Str.ofString "remove_stream") 582), (.ref 309)⟩, ⟨(PyData.keyHash P (Str.ofString "block")), (.str (Str.ofString "block") 590), (.ref 316)⟩, ⟨(PyData.keyHash P (Str.ofString "unblock")), (.str (Str.ofString "unblock") 598), (.ref 323)⟩, ⟨(PyData.keyHash P (Str.ofString "__iter__")), (.str (Str.ofString "__iter__") 605), (.ref 330)⟩, ⟨(PyData.keyHash P (Str.ofString "__next__")), (.str (Str.ofString "__next__") 612), (.ref 337)⟩, ⟨(PyData.keyHash P (Str.ofString "next")), (.str (Str.ofString "next") 619), (.ref 344)⟩, ⟨(PyData.keyHash P (Str.ofString "__static_attributes__")), (.str (Str.ofString "__static_attributes__") 623), (.ref 345)⟩] 15), #[]⟩
noncomputable def o261_289 (P : Params) : Obj := ⟨(.type "tuple"), none, (.seq #[] 0), #[]⟩
noncomputable def o262_290 (P : Params) : Obj := ⟨.none, none, (.fields #[(.int 130 0), (.int 4 0), (.ref 271), (.int 140 0), (.int 4 0), (.ref 278), (.int 148 0), (.int 4 0), (.ref 285), (.int 151 0), (.int 4 0), (.ref 293), (.int 170 0), (.int 4 0), (.ref 301), (.int 173 0), (.int 4 0), (.ref 308), (.int 176 0), (.int 4 0), (.ref 315), (.int 184 0), (.int 4 0), (.ref 322), (.int 187 0), (.int 4 0), (.ref 329), (.int 190 0), (.int 4 0), (.ref 336), (.int 196 0), (.int 4 0), (.ref 343)]), #[]⟩
noncomputable def o263_291 (P : Params) : Obj := ⟨(.type "code"), none, (.fields #[(.str (Str.ofString "PriorityTree") 512), (.str (Str.ofString "PriorityTree") 513), (.str (Str.ofString "/claim/cut.py") 514), (.int 128 0), (.int 0 0), (.int 0 0), (.int 0 0), (.int 0 0), (.ref 261), (.bool false), (.int 181 0), (.ref 262), .none, .none, .none, .none, (.int 515 0), (.int 128 0), (.str (Str.ofString "/claim/cut.py") 516)]), #[]⟩
noncomputable def o264_292 (P : Params) : Obj := ⟨(.type "frame"), none, .plain, #[(some (.ref 263)), (some (.ref 3)), (some (.ref 260)), none, (some (.str (Str.ofString "priority.priority") 220)), none, (some (.ref 0))]⟩
noncomputable def o265_293 (P : Params) : Obj := ⟨(.type "tuple"), none, (.seq #[(.int 1000 522)] 0), #[]⟩
noncomputable def o266_294 (P : Params) : Obj := ⟨(.type "tuple"), none, (.seq #[] 0), #[]⟩
noncomputable def o267_295 (P : Params) : Obj := ⟨.none, none, (.fields #[]), #[]⟩
noncomputable def o268_296 (P : Params) : Obj := ⟨(.type "tuple"), none, (.seq #[(.str (Str.ofString "self") 526), (.str (Str.ofString "maximum_streams") 527)] 0), #[]⟩
noncomputable def o269_297 (P : Params) : Obj := ⟨(.type "tuple"), none, (.seq #[] 0), #[]⟩
noncomputable def o270_298 (P : Params) : Obj := ⟨.none, none, (.func { name := (Str.ofString "__init__"), qualname := (Str.ofString "PriorityTree.__init__"), params := (fnParams (stIn 15 0)), body := (.stmts (fnBody (stIn 15 0))), scope := (fnScope (stIn 15 0)), globals := 0, closure := [], defaults := .none, kwdefaults := .none, doc := .none, pyModule := .none, annotations := none, code := .none, closureTuple := .none, builtins := 0 }), #[]⟩
noncomputable def o271_299 (P : Params) : Obj := ⟨(.type "code"), none, (.fields #[(.str (Str.ofString "__init__") 523), (.str (Str.ofString "PriorityTree.__init__") 524), (.str (Str.ofString "/claim/cut.py") 525), (.int 130 0), (.int 2 0), (.int 0 0), (.int 0 0), (.int 3 0), (.ref 266), (.bool true), (.int 181 0), (.ref 267), .none, (.ref 268), (.ref 269), (.ref 270), (.int 528 0), (.int 130 0), (.str (Str.ofString "/claim/cut.py") 529)]), #[]⟩
noncomputable def o272_300 (P : Params) : Obj := ⟨(.type "function"), none, (.func { name := (Str.ofString "__init__"), qualname := (Str.ofString "PriorityTree.__init__"), params := (fnParams (stIn 15 0)), body := (.stmts (fnBody (stIn 15 0))), scope := (fnScope (stIn 15 0)), globals := 3, closure := [], defaults := (.ref 265), kwdefaults := .none, doc := .none, pyModule := (.str (Str.ofString "priority.priority") 220), annotations := none, code := (.ref 271), closureTuple := .none, builtins := 0 }), #[]⟩
noncomputable def o273_301 (P : Params) : Obj := ⟨(.type "tuple"), none, (.seq #[] 0), #[]⟩
noncomputable def o274_302 (P : Params) : Obj := ⟨.none, none, (.fields #[]), #[]⟩
noncomputable def o275_303 (P : Params) : Obj := ⟨(.type "tuple"), none, (.seq #[(.str (Str.ofString "self") 534), (.str (Str.ofString "parent_stream_id") 535)] 0), #[]⟩
noncomputable def o276_304 (P : Params) : Obj := ⟨(.type "tuple"), none, (.seq #[] 0), #[]⟩
noncomputable def o277_305 (P : Params) : Obj := ⟨.none, none, (.func { name := (Str.ofString "_get_or_insert_parent"), qualname := (Str.ofString "PriorityTree._get_or_insert_parent"), params := (fnParams (stIn 15 1)), body := (.stmts (fnBody (stIn 15 1))), scope := (fnScope (stIn 15 1)), globals := 0, closure := [], defaults := .none, kwdefaults := .none, doc := .none, pyModule := .none, annotations := none, code := .none, closureTuple := .none, builtins := 0 }), #[]⟩
noncomputable def o278_306 (P : Params) : Obj := ⟨(.type "code"), none, (.fields #[(.str (Str.ofString "_get_or_insert_parent") 531), (.str (Str.ofString "PriorityTree._get_or_insert_parent") 532), (.str (Str.ofString "/claim/cut.py") 533), (.int 140 0), (.int 2 0), (.int 0 0), (.int 0 0), (.int 3 0), (.ref 273), (.bool true), (.int 181 0), (.ref 274), .none, (.ref 275), (.ref 276), (.ref 277), (.int 536 0), (.int 140 0), (.str (Str.ofString "/claim/cut.py") 537)]), #[]⟩
noncomputable def o279_307 (P : Params) : Obj := ⟨(.type "function"), none, (.func { name := (Str.ofString "_get_or_insert_parent"), qualname := (Str.ofString "PriorityTree._get_or_insert_parent"), params := (fnParams (stIn 15 1)), body := (.stmts (fnBody (stIn 15 1))), scope := (fnScope (stIn 15 1)), globals := 3, closure := [], defaults := .none, kwdefaults := .none, doc := .none, pyModule := (.str (Str.ofString "priority.priority") 220), annotations := none, code := (.ref 278), closureTuple := .none, builtins := 0 }), #[]⟩
noncomputable def o280_308 (P : Params) : Obj := ⟨(.type "tuple"), none, (.seq #[] 0), #[]⟩
noncomputable def o281_309 (P : Params) : Obj := ⟨.none, none, (.fields #[]), #[]⟩
noncomputable def o282_310 (P : Params) : Obj := ⟨(.type "tuple"), none, (.seq #[(.str (Str.ofString "self") 542), (.str (Str.ofString "parent_stream") 543), (.str (Str.ofString "inserted_stream") 544)] 0), #[]⟩
noncomputable def o283_311 (P : Params) : Obj := ⟨(.type "tuple"), none, (.seq #[] 0), #[]⟩
noncomputable def o284_312 (P : Params) : Obj := ⟨.none, none, (.func { name := (Str.ofString "_exclusive_insert"), qualname := (Str.ofString "PriorityTree._exclusive_insert"), params := (fnParams (stIn 15 2)), body := (.stmts (fnBody (stIn 15 2))), scope := (fnScope (stIn 15 2)), globals := 0, closure := [], defaults := .none, kwdefaults := .none, doc := .none, pyModule := .none, annotations := none, code := .none, closureTuple := .none, builtins := 0 }), #[]⟩
noncomputable def o285_313 (P : Params) : Obj := ⟨(.type "code"), none, (.fields #[(.str (Str.ofString "_exclusive_insert") 539), (.str (Str.ofString "PriorityTree._exclusive_insert") 540), (.str (Str.ofString "/claim/cut.py") 541), (.int 148 0), (.int 3 0), (.int 0 0), (.int 0 0), (.int 3 0), (.ref 280), (.bool true), (.int 181 0), (.ref 281), .none, (.ref 282), (.ref 283), (.ref 284), (.int 545 0), (.int 148 0), (.str (Str.ofString "/claim/cut.py") 546)]), #[]⟩
noncomputable def o286_314 (P : Params) : Obj := ⟨(.type "function"), none, (.func { name := (Str.ofString "_exclusive_insert"), qualname := (Str.ofString "PriorityTree._exclusive_insert"), params := (fnParams (stIn 15 2)), body := (.stmts (fnBody (stIn 15 2))), scope := (fnScope (stIn 15 2)), globals := 3, closure := [], defaults := .none, kwdefaults := .none, doc := .none, pyModule := (.str (Str.ofString "priority.priority") 220), annotations := none, code := (.ref 285), closureTuple := .none, builtins := 0 }), #[]⟩
noncomputable def o287_315 (P : Params) : Obj := ⟨(.type "tuple"), none, (.seq #[.none, (.int 16 548), (.bool false)] 0), #[]⟩
noncomputable def o288_316 (P : Params) : Obj := ⟨(.type "tuple"), none, (.seq #[] 0), #[]⟩
noncomputable def o289_317 (P : Params) : Obj := ⟨.none, none, (.fields #[]), #[]⟩
noncomputable def o290_318 (P : Params) : Obj := ⟨(.type "tuple"), none, (.seq #[(.str (Str.ofString "self") 552), (.str (Str.ofString "stream_id") 553), (.str (Str.ofString "depends_on") 554), (.str (Str.ofString "weight") 555), (.str (Str.ofString "exclusive") 556), (.str (Str.ofString "stream") 557), (.str (Str.ofString "parent_stream") 558), (.str (Str.ofString "parent") 559)] 0), #[]⟩
noncomputable def o291_319 (P : Params) : Obj := ⟨(.type "tuple"), none, (.seq #[] 0), #[]⟩
noncomputable def o292_320 (P : Params) : Obj := ⟨.none, none, (.func { name := (Str.ofString "insert_stream"), qualname := (Str.ofString "PriorityTree.insert_stream"), params := (fnParams (stIn 15 3)), body := (.stmts (fnBody (stIn 15 3))), scope := (fnScope (stIn 15 3)), globals := 0, closure := [], defaults := .none, kwdefaults := .none, doc := .none, pyModule := .none, annotations := none, code := .none, closureTuple := .none, builtins := 0 }), #[]⟩
noncomputable def o293_321 (P : Params) : Obj := ⟨(.type "code"), none, (.fields #[(.str (Str.ofString "insert_stream") 549), (.str (Str.ofString "PriorityTree.insert_stream") 550), (.str (Str.ofString "/claim/cut.py") 551), (.int 151 0), (.int 5 0), (.int 0 0), (.int 0 0), (.int 3 0), (.ref 288), (.bool true), (.int 181 0), (.ref 289), .none, (.ref 290), (.ref 291), (.ref 292), (.int 560 0), (.int 151 0), (.str (Str.ofString "/claim/cut.py") 561)]), #[]⟩
noncomputable def o294_322 (P : Params) : Obj := ⟨(.type "function"), none, (.func { name := (Str.ofString "insert_stream"), qualname := (Str.ofString "PriorityTree.insert_stream"), params := (fnParams (stIn 15 3)), body := (.stmts (fnBody (stIn 15 3))), scope := (fnScope (stIn 15 3)), globals := 3, closure := [], defaults := (.ref 287), kwdefaults := .none, doc := .none, pyModule := (.str (Str.ofString "priority.priority") 220), annotations := none, code := (.ref 293), closureTuple := .none, builtins := 0 }), #[]⟩
noncomputable def o295_323 (P : Params) : Obj := ⟨(.type "tuple"), none, (.seq #[.none, (.int 16 563), (.bool false)] 0), #[]⟩
noncomputable def o296_324 (P : Params) : Obj := ⟨(.type "tuple"), none, (.seq #[] 0), #[]⟩
noncomputable def o297_325 (P : Params) : Obj := ⟨.none, none, (.fields #[]), #[]⟩
noncomputable def o298_326 (P : Params) : Obj := ⟨(.type "tuple"), none, (.seq #[(.str (Str.ofString "self") 567), (.str (Str.ofString "stream_id") 568), (.str (Str.ofString "depends_on") 569), (.str (Str.ofString "weight") 570), (.str (Str.ofString "exclusive") 571)] 0), #[]⟩
noncomputable def o299_327 (P : Params) : Obj := ⟨(.type "tuple"), none, (.seq #[] 0), #[]⟩
noncomputable def o300_328 (P : Params) : Obj := ⟨.none, none, (.func { name := (Str.ofString "reprioritize"), qualname := (Str.ofString "PriorityTree.reprioritize"), params := (fnParams (stIn 15 4)), body := (.stmts (fnBody (stIn 15 4))), scope := (fnScope (stIn 15 4)), globals := 0, closure := [], defaults := .none, kwdefaults := .none, doc := .none, pyModule := .none, annotations := none, code := .none, closureTuple := .none, builtins := 0 }), #[]⟩
noncomputable def o301_329 (P : Params) : Obj := ⟨(.type "code"), none, (.fields #[(.str (Str.ofString "reprioritize") 564), (.str (Str.ofString "PriorityTree.reprioritize") 565), (.str (Str.ofString "/claim/cut.py") 566), (.int 170 0), (.int 5 0), (.int 0 0), (.int 0 0), (.int 3 0), (.ref 296), (.bool true), (.int 181 0), (.ref 297), .none, (.ref 298), (.ref 299), (.ref 300), (.int 572 0), (.int 170 0), (.str (Str.ofString "/claim/cut.py") 573)]), #[]⟩
noncomputable def o302_330 (P : Params) : Obj := ⟨(.type "function"), none, (.func { name := (Str.ofString "reprioritize"), qualname := (Str.ofString "PriorityTree.reprioritize"), params := (fnParams (stIn 15 4)), body := (.stmts (fnBody (stIn 15 4))), scope := (fnScope (stIn 15 4)), globals := 3, closure := [], defaults := (.ref 295), kwdefaults := .none, doc := .none, pyModule := (.str (Str.ofString "priority.priority") 220), annotations := none, code := (.ref 301), closureTuple := .none, builtins := 0 }), #[]⟩
noncomputable def o303_331 (P : Params) : Obj := ⟨(.type "tuple"), none, (.seq #[] 0), #[]⟩
noncomputable def o304_332 (P : Params) : Obj := ⟨.none, none, (.fields #[]), #[]⟩
noncomputable def o305_333 (P : Params) : Obj := ⟨(.type "tuple"), none, (.seq #[(.str (Str.ofString "self") 578), (.str (Str.ofString "stream_id") 579)] 0), #[]⟩
noncomputable def o306_334 (P : Params) : Obj := ⟨(.type "tuple"), none, (.seq #[] 0), #[]⟩
noncomputable def o307_335 (P : Params) : Obj := ⟨.none, none, (.func { name := (Str.ofString "remove_stream"), qualname := (Str.ofString "PriorityTree.remove_stream"), params := (fnParams (stIn 15 5)), body := (.stmts (fnBody (stIn 15 5))), scope := (fnScope (stIn 15 5)), globals := 0, closure := [], defaults := .none, kwdefaults := .none, doc := .none, pyModule := .none, annotations := none, code := .none, closureTuple := .none, builtins := 0 }), #[]⟩
noncomputable def o308_336 (P : Params) : Obj := ⟨(.type "code"), none, (.fields #[(.str (Str.ofString "remove_stream") 575), (.str (Str.ofString "PriorityTree.remove_stream") 576), (.str (Str.ofString "/claim/cut.py") 577), (.int 173 0), (.int 2 0), (.int 0 0), (.int 0 0), (.int 3 0), (.ref 303), (.bool true), (.int 181 0), (.ref 304), .none, (.ref 305), (.ref 306), (.ref 307), (.int 580 0), (.int 173 0), (.str (Str.ofString "/claim/cut.py") 581)]), #[]⟩
noncomputable def o309_337 (P : Params) : Obj := ⟨(.type "function"), none, (.func { name := (Str.ofString "remove_stream"), qualname := (Str.ofString "PriorityTree.remove_stream"), params := (fnParams (stIn 15 5)), body := (.stmts (fnBody (stIn 15 5))), scope := (fnScope (stIn 15 5)), globals := 3, closure := [], defaults := .none, kwdefaults := .none, doc := .none, pyModule := (.str (Str.ofString "priority.priority") 220), annotations := none, code := (.ref 308), closureTuple := .none, builtins := 0 }), #[]⟩
noncomputable def o310_338 (P : Params) : Obj := ⟨(.type "tuple"), none, (.seq #[] 0), #[]⟩
noncomputable def o311_339 (P : Params) : Obj := ⟨.none, none, (.fields #[]), #[]⟩
noncomputable def o312_340 (P : Params) : Obj := ⟨(.type "tuple"), none, (.seq #[(.str (Str.ofString "self") 586), (.str (Str.ofString "stream_id") 587)] 0), #[]⟩
noncomputable def o313_341 (P : Params) : Obj := ⟨(.type "tuple"), none, (.seq #[] 0), #[]⟩
noncomputable def o314_342 (P : Params) : Obj := ⟨.none, none, (.func { name := (Str.ofString "block"), qualname := (Str.ofString "PriorityTree.block"), params := (fnParams (stIn 15 6)), body := (.stmts (fnBody (stIn 15 6))), scope := (fnScope (stIn 15 6)), globals := 0, closure := [], defaults := .none, kwdefaults := .none, doc := .none, pyModule := .none, annotations := none, code := .none, closureTuple := .none, builtins := 0 }), #[]⟩
noncomputable def o315_343 (P : Params) : Obj := ⟨(.type "code"), none, (.fields #[(.str (Str.ofString "block") 583), (.str (Str.ofString "PriorityTree.block") 584), (.str (Str.ofString "/claim/cut.py") 585), (.int 176 0), (.int 2 0), (.int 0 0), (.int 0 0), (.int 3 0), (.ref 310), (.bool true), (.int 181 0), (.ref 311), .none, (.ref 312), (.ref 313), (.ref 314), (.int 588 0), (.int 176 0), (.str (Str.ofString "/claim/cut.py") 589)]), #[]⟩
noncomputable def o316_344 (P : Params) : Obj := ⟨(.type "function"), none, (.func { name := (Str.ofString "block"), qualname := (Str.ofString "PriorityTree.block"), params := (fnParams (stIn 15 6)), body := (.stmts (fnBody (stIn 15 6))), scope := (fnScope (stIn 15 6)), globals := 3, closure := [], defaults := .none, kwdefaults := .none, doc := .none, pyModule := (.str (Str.ofString "priority.priority") 220), annotations := none, code := (.ref 315), closureTuple := .none, builtins := 0 }), #[]⟩
noncomputable def o317_345 (P : Params) : Obj := ⟨(.type "tuple"), none, (.seq #[] 0), #[]⟩
noncomputable def o318_346 (P : Params) : Obj := ⟨.none, none, (.fields #[]), #[]⟩
noncomputable def o319_347 (P : Params) : Obj := ⟨(.type "tuple"), none, (.seq #[(.str (Str.ofString "self") 594), (.str (Str.ofString "stream_id") 595)] 0), #[]⟩
noncomputable def o320_348 (P : Params) : Obj := ⟨(.type "tuple"), none, (.seq #[] 0), #[]⟩
noncomputable def o321_349 (P : Params) : Obj := ⟨.none, none, (.func { name := (Str.ofString "unblock"), qualname := (Str.ofString "PriorityTree.unblock"), params := (fnParams (stIn 15 7)), body := (.stmts (fnBody (stIn 15 7))), scope := (fnScope (stIn 15 7)), globals := 0, closure := [], defaults := .none, kwdefaults := .none, doc := .none, pyModule := .none, annotations := none, code := .none, closureTuple := .none, builtins := 0 }), #[]⟩
noncomputable def o322_350 (P : Params) : Obj := ⟨(.type "code"), none, (.fields #[(.str (Str.ofString "unblock") 591), (.str (Str.ofString "PriorityTree.unblock") 592), (.str (Str.ofString "/claim/cut.py") 593), (.int 184 0), (.int 2 0), (.int 0 0), (.int 0 0), (.int 3 0), (.ref 317), (.bool true), (.int 181 0), (.ref 318), .none, (.ref 319), (.ref 320), (.ref 321), (.int 596 0), (.int 184 0), (.str (Str.ofString "/claim/cut.py") 597)]), #[]⟩
noncomputable def o323_351 (P : Params) : Obj := ⟨(.type "function"), none, (.func { name := (Str.ofString "unblock"), qualname := (Str.ofString "PriorityTree.unblock"), params := (fnParams (stIn 15 7)), body := (.stmts (fnBody (stIn 15 7))), scope := (fnScope (stIn 15 7)), globals := 3, closure := [], defaults := .none, kwdefaults := .none, doc := .none, pyModule := (.str (Str.ofString "priority.priority") 220), annotations := none, code := (.ref 322), closureTuple := .none, builtins := 0 }), #[]⟩
noncomputable def o324_352 (P : Params) : Obj := ⟨(.type "tuple"), none, (.seq #[] 0), #[]⟩
noncomputable def o325_353 (P : Params) : Obj := ⟨.none, none, (.fields #[]), #[]⟩
noncomputable def o326_354 (P : Params) : Obj := ⟨(.type "tuple"), none, (.seq #[(.str (Str.ofString "self") 602)] 0), #[]⟩
noncomputable def o327_355 (P : Params) : Obj := ⟨(.type "tuple"), none, (.seq #[] 0), #[]⟩
noncomputable def o328_356 (P : Params) : Obj := ⟨.none, none, (.func { name := (Str.ofString "__iter__"), qualname := (Str.ofString "PriorityTree.__iter__"), params := (fnParams (stIn 15 8)), body := (.stmts (fnBody (stIn 15 8))), scope := (fnScope (stIn 15 8)), globals := 0, closure := [], defaults := .none, kwdefaults := .none, doc := .none, pyModule := .none, annotations := none, code := .none, closureTuple := .none, builtins := 0 }), #[]⟩
noncomputable def o329_357 (P : Params) : Obj := ⟨(.type "code"), none, (.fields #[(.str (Str.ofString "__iter__") 599), (.str (Str.ofString "PriorityTree.__iter__") 600), (.str (Str.ofString "/claim/cut.py") 601), (.int 187 0), (.int 1 0), (.int 0 0), (.int 0 0), (.int 3 0), (.ref 324), (.bool true), (.int 181 0), (.ref 325), .none, (.ref 326), (.ref 327), (.ref 328), (.int 603 0), (.int 187 0), (.str (Str.ofString "/claim/cut.py") 604)]), #[]⟩
noncomputable def o330_358 (P : Params) : Obj := ⟨(.type "function"), none, (.func { name := (Str.ofString "__iter__"), qualname := (Str.ofString "PriorityTree.__iter__"), params := (fnParams (stIn 15 8)), body := (.stmts (fnBody (stIn 15 8))), scope := (fnScope (stIn 15 8)), globals := 3, closure := [], defaults := .none, kwdefaults := .none, doc := .none, pyModule := (.str (Str.ofString "priority.priority") 220), annotations := none, code := (.ref 329), closureTuple := .none, builtins := 0 }), #[]⟩
noncomputable def o331_359 (P : Params) : Obj := ⟨(.type "tuple"), none, (.seq #[] 0), #[]⟩
noncomputable def o332_360 (P : Params) : Obj := ⟨.none, none, (.fields #[]), #[]⟩
noncomputable def o333_361 (P : Params) : Obj := ⟨(.type "tuple"), none, (.seq #[(.str (Str.ofString "self") 609)] 0), #[]⟩
noncomputable def o334_362 (P : Params) : Obj := ⟨(.type "tuple"), none, (.seq #[] 0), #[]⟩
noncomputable def o335_363 (P : Params) : Obj := ⟨.none, none, (.func { name := (Str.ofString "__next__"), qualname := (Str.ofString "PriorityTree.__next__"), params := (fnParams (stIn 15 9)), body := (.stmts (fnBody (stIn 15 9))), scope := (fnScope (stIn 15 9)), globals := 0, closure := [], defaults := .none, kwdefaults := .none, doc := .none, pyModule := .none, annotations := none, code := .none, closureTuple := .none, builtins := 0 }), #[]⟩
noncomputable def o336_364 (P : Params) : Obj := ⟨(.type "code"), none, (.fields #[(.str (Str.ofString "__next__") 606), (.str (Str.ofString "PriorityTree.__next__") 607), (.str (Str.ofString "/claim/cut.py") 608), (.int 190 0), (.int 1 0), (.int 0 0), (.int 0 0), (.int 3 0), (.ref 331), (.bool true), (.int 181 0), (.ref 332), .none, (.ref 333), (.ref 334), (.ref 335), (.int 610 0), (.int 190 0), (.str (Str.ofString "/claim/cut.py") 611)]), #[]⟩
noncomputable def o337_365 (P : Params) : Obj := ⟨(.type "function"), none, (.func { name := (Str.ofString "__next__"), qualname := (Str.ofString "PriorityTree.__next__"), params := (fnParams (stIn 15 9)), body := (.stmts (fnBody (stIn 15 9))), scope := (fnScope (stIn 15 9)), globals := 3, closure := [], defaults := .none, kwdefaults := .none, doc := .none, pyModule := (.str (Str.ofString "priority.priority") 220), annotations := none, code := (.ref 336), closureTuple := .none, builtins := 0 }), #[]⟩
noncomputable def o338_366 (P : Params) : Obj := ⟨(.type "tuple"), none, (.seq #[] 0), #[]⟩
noncomputable def o339_367 (P : Params) : Obj := ⟨.none, none, (.fields #[]), #[]⟩
noncomputable def o340_368 (P : Params) : Obj := ⟨(.type "tuple"), none, (.seq #[(.str (Str.ofString "self") 616)] 0), #[]⟩
noncomputable def o341_369 (P : Params) : Obj := ⟨(.type "tuple"), none, (.seq #[] 0), #[]⟩
noncomputable def o342_370 (P : Params) : Obj := ⟨.none, none, (.func { name := (Str.ofString "next"), qualname := (Str.ofString "PriorityTree.next"), params := (fnParams (stIn 15 10)), body := (.stmts (fnBody (stIn 15 10))), scope := (fnScope (stIn 15 10)), globals := 0, closure := [], defaults := .none, kwdefaults := .none, doc := .none, pyModule := .none, annotations := none, code := .none, closureTuple := .none, builtins := 0 }), #[]⟩
noncomputable def o343_371 (P : Params) : Obj := ⟨(.type "code"), none, (.fields #[(.str (Str.ofString "next") 613), (.str (Str.ofString "PriorityTree.next") 614), (.str (Str.ofString "/claim/cut.py") 615), (.int 196 0), (.int 1 0), (.int 0 0), (.int 0 0), (.int 3 0), (.ref 338), (.bool true), (.int 181 0), (.ref 339), .none, (.ref 340), (.ref 341), (.ref 342), (.int 617 0), (.int 196 0), (.str (Str.ofString "/claim/cut.py") 618)]), #[]⟩
noncomputable def o344_372 (P : Params) : Obj := ⟨(.type "function"), none, (.func { name := (Str.ofString "next"), qualname := (Str.ofString "PriorityTree.next"), params := (fnParams (stIn 15 10)), body := (.stmts (fnBody (stIn 15 10))), scope := (fnScope (stIn 15 10)), globals := 3, closure := [], defaults := .none, kwdefaults := .none, doc := .none, pyModule := (.str (Str.ofString "priority.priority") 220), annotations := none, code := (.ref 343), closureTuple := .none, builtins := 0 }), #[]⟩
noncomputable def o345_373 (P : Params) : Obj := ⟨(.type "tuple"), none, (.seq #[(.str (Str.ofString "_maximum_streams") 620), (.str (Str.ofString "_root_stream") 621), (.str (Str.ofString "_streams") 622)] 0), #[]⟩
noncomputable def o346_374 (P : Params) : Obj := ⟨(.type "dict"), none, (.dict #[⟨(PyData.keyHash P (Str.ofString "__module__")), (.str (Str.ofString "__module__") 517), (.str (Str.ofString "priority.priority") 220)⟩, ⟨(PyData.keyHash P (Str.ofString "__firstlineno__")), (.str (Str.ofString "__firstlineno__") 521), (.int 128 520)⟩, ⟨(PyData.keyHash P (Str.ofString "__init__")), (.str (Str.ofString "__init__") 530), (.ref 272)⟩, ⟨(PyData.keyHash P (Str.ofString "_get_or_insert_parent")), (.str (Str.ofString "_get_or_insert_parent") 538), (.ref 279)⟩, ⟨(PyData.keyHash P (Str.ofString "_exclusive_insert")), (.str (Str.ofString "_exclusive_insert") 547), (.ref 286)⟩, ⟨(PyData.keyHash P (Str.ofString "insert_stream")), (.str (Str.ofString "insert_stream") 562), (.ref 294)⟩, ⟨(PyData.keyHash P (Str.ofString "reprioritize")), (.str (Str.ofString "reprioritize") 574), (.ref 302)⟩, ⟨(PyData.keyHash P (Str.ofString "remove_stream")), (.str (Str.ofString "remove_stream") 582), (.ref 309)⟩, ⟨(PyData.keyHash P (Str.ofString "block")), (.str (Str.ofString "block") 590), (.ref 316)⟩, ⟨(PyData.keyHash P (Str.ofString "unblock")), (.str (Str.ofString "unblock") 598), (.ref 323)⟩, ⟨(PyData.keyHash P (Str.ofString "__iter__")), (.str (Str.ofString "__iter__") 605), (.ref 330)⟩, ⟨(PyData.keyHash P (Str.ofString "__next__")), (.str (Str.ofString "__next__") 612), (.ref 337)⟩, ⟨(PyData.keyHash P (Str.ofString "next")), (.str (Str.ofString "next") 619), (.ref 344)⟩, ⟨(PyData.keyHash P (Str.ofString "__static_attributes__")), (.str (Str.ofString "__static_attributes__") 623), (.ref 345)⟩, ⟨(PyData.keyHash P (Str.ofString "__dict__")), (.str (Str.ofString "__dict__") 625), (.ref 348)⟩, ⟨(PyData.keyHash P (Str.ofString "__weakref__")), (.str (Str.ofString "__weakref__") 627), (.ref 349)⟩, ⟨(PyData.keyHash P (Str.ofString "__doc__")), (.str (Str.ofString "__doc__") 628), .none⟩] 4), #[]⟩
noncomputable def o347_375 (P : Params) : Obj := ⟨(.type "type"), none, (.cls { name := (Str.ofString "PriorityTree"), bases := [(.type "object")], mro := [(.ref 347), (.type "object")], ns := 346, qualname := (Str.ofString "PriorityTree"), hasDict := true, slotNames := [], subclasses := [], abstract := false, collection := none, hasDel := false }), #[none, none, (some (.str (Str.ofString "PriorityTree") 510)), (some (.str (Str.ofString "PriorityTree") 518)), (some (.builtin "object.__new__")), (some (.bool true))]⟩
noncomputable def o348_376 (P : Params) : Obj := ⟨(.type "getset_descriptor"), none, (.fields #[(.str (Str.ofString "__dict__") 624), (.ref 347), (.builtin "function.__dict__"), (.builtin "function.__dict__#set")]), #[]⟩
noncomputable def o349_377 (P : Params) : Obj := ⟨(.type "getset_descriptor"), none, (.fields #[(.str (Str.ofString "__weakref__") 626), (.ref 347), (.builtin "ExceptionGroup.__weakref__"), .none]), #[]⟩
noncomputable def o350_378 (P : Params) : Obj := ⟨(.type "super"), none, (.fields #[(.ref 347), (.ref 347), (.ref 347)]), #[]⟩
noncomputable def o351_379 (P : Params) : Obj := ⟨(.type "builtin_function_or_method"), none, (.fields #[(.builtin "object.__init_subclass__"), (.ref 347)]), #[]⟩
noncomputable def tr15 (P : Params) : BT := (.node (boot_o_0 P) (.node (boot_o_1 P) (.node (o3_284 P) (.node (boot_o_7 P) (.node (o15_6 P) (.node (o31_27 P) (.node (o63_68 P) (.node (o127_148 P) (.node (o255_281 P) .nil .nil) .nil) (.node (o191_217 P) (.node (o319_347 P) .nil .nil) .nil)) (.node (o95_110 P) (.node (o159_185 P) (.node (o287_315 P) .nil .nil) .nil) (.node (o223_249 P) (.node (o351_379 P) .nil .nil) .nil))) (.node (o47_49 P) (.node (o79_87 P) (.node (o143_169 P) (.node (o271_299 P) .nil .nil) .nil) (.node (o207_233 P) (.node (o335_363 P) .nil .nil) .nil)) (.node (o111_129 P) (.node (o175_201 P) (.node (o303_331 P) .nil .nil) .nil) (.node (o239_265 P) .nil .nil)))) (.node (o23_17 P) (.node (o39_37 P) (.node (o71_79 P) (.node (o135_159 P) (.node (o263_291 P) .nil .nil) .nil) (.node (o199_225 P) (.node (o327_355 P) .nil .nil) .nil)) (.node (o103_118 P) (.node (o167_193 P) (.node (o295_323 P) .nil .nil) .nil) (.node (o231_257 P) .nil .nil))) (.node (o55_57 P) (.node (o87_98 P) (.node (o151_177 P) (.node (o279_307 P) .nil .nil) .nil) (.node (o215_241 P) (.node (o343_371 P) .nil .nil) .nil)) (.node (o119_140 P) (.node (o183_209 P) (.node (o311_339 P) .nil .nil) .nil) (.node (o247_273 P) .nil .nil))))) (.node (o11_0 P) (.node (o19_10 P) (.node (o35_31 P) (.node (o67_72 P) (.node (o131_155 P) (.node (o259_287 P) .nil .nil) .nil) (.node (o195_221 P) (.node (o323_351 P) .nil .nil) .nil)) (.node (o99_114 P) (.node (o163_189 P) (.node (o291_319 P) .nil .nil) .nil) (.node (o227_253 P) .nil .nil))) (.node (o51_53 P) (.node (o83_94 P) (.node (o147_173 P) (.node (o275_303 P) .nil .nil) .nil) (.node (o211_237 P) (.node (o339_367 P) .nil .nil) .nil)) (.node (o115_133 P) (.node (o179_205 P) (.node (o307_335 P) .nil .nil) .nil) (.node (o243_269 P) .nil .nil)))) (.node (o27_21 P) (.node (o43_45 P) (.node (o75_83 P) (.node (o139_163 P) (.node (o267_295 P) .nil .nil) .nil) (.node (o203_229 P) (.node (o331_359 P) .nil .nil) .nil)) (.node (o107_125 P) (.node (o171_197 P) (.node (o299_327 P) .nil .nil) .nil) (.node (o235_261 P) .nil .nil))) (.node (o59_64 P) (.node (o91_102 P) (.node (o155_181 P) (.node (o283_311 P) .nil .nil) .nil) (.node (o219_245 P) (.node (o347_375 P) .nil .nil) .nil)) (.node (o123_144 P) (.node (o187_213 P) (.node (o315_343 P) .nil .nil) .nil) (.node (o251_277 P) .nil .nil)))))) (.node (boot_o_5 P) (.node (boot_o_9 P) (.node (o17_8 P) (.node (o33_29 P) (.node (o65_70 P) (.node (o129_153 P) (.node (o257_283 P) .nil .nil) .nil) (.node (o193_219 P) (.node (o321_349 P) .nil .nil) .nil)) (.node (o97_112 P) (.node (o161_187 P) (.node (o289_317 P) .nil .nil) .nil) (.node (o225_251 P) .nil .nil))) (.node (o49_51 P) (.node (o81_92 P) (.node (o145_171 P) (.node (o273_301 P) .nil .nil) .nil) (.node (o209_235 P) (.node (o337_365 P) .nil .nil) .nil)) (.node (o113_131 P) (.node (o177_203 P) (.node (o305_333 P) .nil .nil) .nil) (.node (o241_267 P) .nil .nil)))) (.node (o25_19 P) (.node (o41_39 P) (.node (o73_81 P) (.node (o137_161 P) (.node (o265_293 P) .nil .nil) .nil) (.node (o201_227 P) (.node (o329_357 P) .nil .nil) .nil)) (.node (o105_123 P) (.node (o169_195 P) (.node (o297_325 P) .nil .nil) .nil) (.node (o233_259 P) .nil .nil))) (.node (o57_62 P) (.node (o89_100 P) (.node (o153_179 P) (.node (o281_309 P) .nil .nil) .nil) (.node (o217_243 P) (.node (o345_373 P) .nil .nil) .nil)) (.node (o121_142 P) (.node (o185_211 P) (.node (o313_341 P) .nil .nil) .nil) (.node (o249_275 P) .nil .nil))))) (.node (o13_2 P) (.node (o21_12 P) (.node (o37_35 P) (.node (o69_77 P) (.node (o133_157 P) (.node (o261_289 P) .nil .nil) .nil) (.node (o197_223 P) (.node (o325_353 P) .nil .nil) .nil)) (.node (o101_116 P) (.node (o165_191 P) (.node (o293_321 P) .nil .nil) .nil) (.node (o229_255 P) .nil .nil))) (.node (o53_55 P) (.node (o85_96 P) (.node (o149_175 P) (.node (o277_305 P) .nil .nil) .nil) (.node (o213_239 P) (.node (o341_369 P) .nil .nil) .nil)) (.node (o117_138 P) (.node (o181_207 P) (.node (o309_337 P) .nil .nil) .nil) (.node (o245_271 P) .nil .nil)))) (.node (o29_25 P) (.node (o45_47 P) (.node (o77_85 P) (.node (o141_167 P) (.node (o269_297 P) .nil .nil) .nil) (.node (o205_231 P) (.node (o333_361 P) .nil .nil) .nil)) (.node (o109_127 P) (.node (o173_199 P) (.node (o301_329 P) .nil .nil) .nil) (.node (o237_263 P) .nil .nil))) (.node (o61_66 P) (.node (o93_108 P) (.node (o157_183 P) (.node (o285_313 P) .nil .nil) .nil) (.node (o221_247 P) (.node (o349_377 P) .nil .nil) .nil)) (.node (o125_146 P) (.node (o189_215 P) (.node (o317_345 P) .nil .nil) .nil) (.node (o253_279 P) .nil .nil))))))) (.node (o2_103 P) (.node (boot_o_4 P) (.node (boot_o_8 P) (.node (o16_7 P) (.node (o32_28 P) (.node (o64_69 P) (.node (o128_149 P) (.node (o256_282 P) .nil .nil) .nil) (.node (o192_218 P) (.node (o320_348 P) .nil .nil) .nil)) (.node (o96_111 P) (.node (o160_186 P) (.node (o288_316 P) .nil .nil) .nil) (.node (o224_250 P) .nil .nil))) (.node (o48_50 P) (.node (o80_91 P) (.node (o144_170 P) (.node (o272_300 P) .nil .nil) .nil) (.node (o208_234 P) (.node (o336_364 P) .nil .nil) .nil)) (.node (o112_130 P) (.node (o176_202 P) (.node (o304_332 P) .nil .nil) .nil) (.node (o240_266 P) .nil .nil)))) (.node (o24_18 P) (.node (o40_38 P) (.node (o72_80 P) (.node (o136_160 P) (.node (o264_292 P) .nil .nil) .nil) (.node (o200_226 P) (.node (o328_356 P) .nil .nil) .nil)) (.node (o104_119 P) (.node (o168_194 P) (.node (o296_324 P) .nil .nil) .nil) (.node (o232_258 P) .nil .nil))) (.node (o56_61 P) (.node (o88_99 P) (.node (o152_178 P) (.node (o280_308 P) .nil .nil) .nil) (.node (o216_242 P) (.node (o344_372 P) .nil .nil) .nil)) (.node (o120_141 P) (.node (o184_210 P) (.node (o312_340 P) .nil .nil) .nil) (.node (o248_274 P) .nil .nil))))) (.node (o12_285 P) (.node (o20_11 P) (.node (o36_34 P) (.node (o68_76 P) (.node (o132_156 P) (.node (o260_288 P) .nil .nil) .nil) (.node (o196_222 P) (.node (o324_352 P) .nil .nil) .nil)) (.node (o100_115 P) (.node (o164_190 P) (.node (o292_320 P) .nil .nil) .nil) (.node (o228_254 P) .nil .nil))) (.node (o52_152 P) (.node (o84_95 P) (.node (o148_174 P) (.node (o276_304 P) .nil .nil) .nil) (.node (o212_238 P) (.node (o340_368 P) .nil .nil) .nil)) (.node (o116_134 P) (.node (o180_206 P) (.node (o308_336 P) .nil .nil) .nil) (.node (o244_270 P) .nil .nil)))) (.node (o28_22 P) (.node (o44_46 P) (.node (o76_84 P) (.node (o140_164 P) (.node (o268_296 P) .nil .nil) .nil) (.node (o204_230 P) (.node (o332_360 P) .nil .nil) .nil)) (.node (o108_126 P) (.node (o172_198 P) (.node (o300_328 P) .nil .nil) .nil) (.node (o236_262 P) .nil .nil))) (.node (o60_65 P) (.node (o92_107 P) (.node (o156_182 P) (.node (o284_312 P) .nil .nil) .nil) (.node (o220_246 P) (.node (o348_376 P) .nil .nil) .nil)) (.node (o124_145 P) (.node (o188_214 P) (.node (o316_344 P) .nil .nil) .nil) (.node (o252_278 P) .nil .nil)))))) (.node (boot_o_6 P) (.node (boot_o_10 P) (.node (o18_9 P) (.node (o34_30 P) (.node (o66_71 P) (.node (o130_154 P) (.node (o258_286 P) .nil .nil) .nil) (.node (o194_220 P) (.node (o322_350 P) .nil .nil) .nil)) (.node (o98_113 P) (.node (o162_188 P) (.node (o290_318 P) .nil .nil) .nil) (.node (o226_252 P) .nil .nil))) (.node (o50_52 P) (.node (o82_93 P) (.node (o146_172 P) (.node (o274_302 P) .nil .nil) .nil) (.node (o210_236 P) (.node (o338_366 P) .nil .nil) .nil)) (.node (o114_132 P) (.node (o178_204 P) (.node (o306_334 P) .nil .nil) .nil) (.node (o242_268 P) .nil .nil)))) (.node (o26_20 P) (.node (o42_40 P) (.node (o74_82 P) (.node (o138_162 P) (.node (o266_294 P) .nil .nil) .nil) (.node (o202_228 P) (.node (o330_358 P) .nil .nil) .nil)) (.node (o106_124 P) (.node (o170_196 P) (.node (o298_326 P) .nil .nil) .nil) (.node (o234_260 P) .nil .nil))) (.node (o58_63 P) (.node (o90_101 P) (.node (o154_180 P) (.node (o282_310 P) .nil .nil) .nil) (.node (o218_244 P) (.node (o346_374 P) .nil .nil) .nil)) (.node (o122_143 P) (.node (o186_212 P) (.node (o314_342 P) .nil .nil) .nil) (.node (o250_276 P) .nil .nil))))) (.node (o14_3 P) (.node (o22_16 P) (.node (o38_36 P) (.node (o70_78 P) (.node (o134_158 P) (.node (o262_290 P) .nil .nil) .nil) (.node (o198_224 P) (.node (o326_354 P) .nil .nil) .nil)) (.node (o102_117 P) (.node (o166_192 P) (.node (o294_322 P) .nil .nil) .nil) (.node (o230_256 P) .nil .nil))) (.node (o54_56 P) (.node (o86_97 P) (.node (o150_176 P) (.node (o278_306 P) .nil .nil) .nil) (.node (o214_240 P) (.node (o342_370 P) .nil .nil) .nil)) (.node (o118_139 P) (.node (o182_208 P) (.node (o310_338 P) .nil .nil) .nil) (.node (o246_272 P) .nil .nil)))) (.node (o30_26 P) (.node (o46_48 P) (.node (o78_86 P) (.node (o142_168 P) (.node (o270_298 P) .nil .nil) .nil) (.node (o206_232 P) (.node (o334_362 P) .nil .nil) .nil)) (.node (o110_128 P) (.node (o174_200 P) (.node (o302_330 P) .nil .nil) .nil) (.node (o238_264 P) .nil .nil))) (.node (o62_67 P) (.node (o94_109 P) (.node (o158_184 P) (.node (o286_314 P) .nil .nil) .nil) (.node (o222_248 P) (.node (o350_378 P) .nil .nil) .nil)) (.node (o126_147 P) (.node (o190_216 P) (.node (o318_346 P) .nil .nil) .nil) (.node (o254_280 P) .nil .nil))))))))
noncomputable def S15 (w : World) (os : OsState) : SharedT := ⟨tr15 w.params, 352, lifeH, ⟨[]⟩, ⟨0, 0, 0, 0⟩, 631, os⟩
noncomputable def o3_380 (P : Params) : Obj := ⟨(.type "dict"), none, (.dict #[⟨(PyData.keyHash P (Str.ofString "__name__")), (.str (Str.ofString "__name__") 165), (.str (Str.ofString "law_jl0001_09") 631)⟩, ⟨(PyData.keyHash P (Str.ofString "__doc__")), (.str (Str.ofString "__doc__") 166), .none⟩, ⟨(PyData.keyHash P (Str.ofString "__package__")), (.str (Str.ofString "__package__") 167), .none⟩, ⟨(PyData.keyHash P (Str.ofString "__loader__")), (.str (Str.ofString "__loader__") 168), (.builtin "__main__.__loader__#opaque")⟩, ⟨(PyData.keyHash P (Str.ofString "__spec__")), (.str (Str.ofString "__spec__") 169), .none⟩, ⟨(PyData.keyHash P (Str.ofString "__annotations__")), (.str (Str.ofString "__annotations__") 170), (.ref 6)⟩, ⟨(PyData.keyHash P (Str.ofString "__builtins__")), (.str (Str.ofString "__builtins__") 171), (.ref 4)⟩, ⟨(PyData.keyHash P (Str.ofString "__file__")), (.str (Str.ofString "__file__") 173), (.str (Str.ofString "/claim/cut.py") 172)⟩, ⟨(PyData.keyHash P (Str.ofString "__cached__")), (.str (Str.ofString "__cached__") 174), .none⟩, ⟨(PyData.keyHash P (Str.ofString "_wall")), (.str (Str.ofString "_wall") 193), (.ref 21)⟩, ⟨(PyData.keyHash P (Str.ofString "_ahead")), (.str (Str.ofString "_ahead") 203), (.ref 28)⟩, ⟨(PyData.keyHash P (Str.ofString "heappush")), (.str (Str.ofString "heappush") 212), (.ref 35)⟩, ⟨(PyData.keyHash P (Str.ofString "heappop")), (.str (Str.ofString "heappop") 219), (.ref 42)⟩, ⟨(PyData.keyHash P (Str.ofString "PriorityError")), (.str (Str.ofString "PriorityError") 241), (.ref 52)⟩, ⟨(PyData.keyHash P (Str.ofString "DeadlockError")), (.str (Str.ofString "DeadlockError") 257), (.ref 65)⟩, ⟨(PyData.keyHash P (Str.ofString "PriorityLoop")), (.str (Str.ofString "PriorityLoop") 273), (.ref 77)⟩, ⟨(PyData.keyHash P (Str.ofString "DuplicateStreamError")), (.str (Str.ofString "DuplicateStreamError") 289), (.ref 89)⟩, ⟨(PyData.keyHash P (Str.ofString "MissingStreamError")), (.str (Str.ofString "MissingStreamError") 309), (.ref 101)⟩, ⟨(PyData.keyHash P (Str.ofString "TooManyStreamsError")), (.str (Str.ofString "TooManyStreamsError") 325), (.ref 114)⟩, ⟨(PyData.keyHash P (Str.ofString "BadWeightError")), (.str (Str.ofString "BadWeightError") 341), (.ref 126)⟩, ⟨(PyData.keyHash P (Str.ofString "PseudoStreamError")), (.str (Str.ofString "PseudoStreamError") 357), (.ref 138)⟩, ⟨(PyData.keyHash P (Str.ofString "Stream")), (.str (Str.ofString "Stream") 509), (.ref 253)⟩, ⟨(PyData.keyHash P (Str.ofString "PriorityTree")), (.str (Str.ofString "PriorityTree") 630), (.ref 347)⟩] 23), #[]⟩
noncomputable def tr16 (P : Params) : BT := (.node (boot_o_0 P) (.node (boot_o_1 P) (.node (o3_380 P) (.node (boot_o_7 P) (.node (o15_6 P) (.node (o31_27 P) (.node (o63_68 P) (.node (o127_148 P) (.node (o255_281 P) .nil .nil) .nil) (.node (o191_217 P) (.node (o319_347 P) .nil .nil) .nil)) (.node (o95_110 P) (.node (o159_185 P) (.node (o287_315 P) .nil .nil) .nil) (.node (o223_249 P) (.node (o351_379 P) .nil .nil) .nil))) (.node (o47_49 P) (.node (o79_87 P) (.node (o143_169 P) (.node (o271_299 P) .nil .nil) .nil) (.node (o207_233 P) (.node (o335_363 P) .nil .nil) .nil)) (.node (o111_129 P) (.node (o175_201 P) (.node (o303_331 P) .nil .nil) .nil) (.node (o239_265 P) .nil .nil)))) (.node (o23_17 P) (.node (o39_37 P) (.node (o71_79 P) (.node (o135_159 P) (.node (o263_291 P) .nil .nil) .nil) (.node (o199_225 P) (.node (o327_355 P) .nil .nil) .nil)) (.node (o103_118 P) (.node (o167_193 P) (.node (o295_323 P) .nil .nil) .nil) (.node (o231_257 P) .nil .nil))) (.node (o55_57 P) (.node (o87_98 P) (.node (o151_177 P) (.node (o279_307 P) .nil .nil) .nil) (.node (o215_241 P) (.node (o343_371 P) .nil .nil) .nil)) (.node (o119_140 P) (.node (o183_209 P) (.node (o311_339 P) .nil .nil) .nil) (.node (o247_273 P) .nil .nil))))) (.node (o11_0 P) (.node (o19_10 P) (.node (o35_31 P) (.node (o67_72 P) (.node (o131_155 P) (.node (o259_287 P) .nil .nil) .nil) (.node (o195_221 P) (.node (o323_351 P) .nil .nil) .nil)) (.node (o99_114 P) (.node (o163_189 P) (.node (o291_319 P) .nil .nil) .nil) (.node (o227_253 P) .nil .nil))) (.node (o51_53 P) (.node (o83_94 P) (.node (o147_173 P) (.node (o275_303 P) .nil .nil) .nil) (.node (o211_237 P) (.node (o339_367 P) .nil .nil) .nil)) (.node (o115_133 P) (.node (o179_205 P) (.node (o307_335 P) .nil .nil) .nil) (.node (o243_269 P) .nil .nil)))) (.node (o27_21 P) (.node (o43_45 P) (.node (o75_83 P) (.node (o139_163 P) (.node (o267_295 P) .nil .nil) .nil) (.node (o203_229 P) (.node (o331_359 P) .nil .nil) .nil)) (.node (o107_125 P) (.node (o171_197 P) (.node (o299_327 P) .nil .nil) .nil) (.node (o235_261 P) .nil .nil))) (.node (o59_64 P) (.node (o91_102 P) (.node (o155_181 P) (.node (o283_311 P) .nil .nil) .nil) (.node (o219_245 P) (.node (o347_375 P) .nil .nil) .nil)) (.node (o123_144 P) (.node (o187_213 P) (.node (o315_343 P) .nil .nil) .nil) (.node (o251_277 P) .nil .nil)))))) (.node (boot_o_5 P) (.node (boot_o_9 P) (.node (o17_8 P) (.node (o33_29 P) (.node (o65_70 P) (.node (o129_153 P) (.node (o257_283 P) .nil .nil) .nil) (.node (o193_219 P) (.node (o321_349 P) .nil .nil) .nil)) (.node (o97_112 P) (.node (o161_187 P) (.node (o289_317 P) .nil .nil) .nil) (.node (o225_251 P) .nil .nil))) (.node (o49_51 P) (.node (o81_92 P) (.node (o145_171 P) (.node (o273_301 P) .nil .nil) .nil) (.node (o209_235 P) (.node (o337_365 P) .nil .nil) .nil)) (.node (o113_131 P) (.node (o177_203 P) (.node (o305_333 P) .nil .nil) .nil) (.node (o241_267 P) .nil .nil)))) (.node (o25_19 P) (.node (o41_39 P) (.node (o73_81 P) (.node (o137_161 P) (.node (o265_293 P) .nil .nil) .nil) (.node (o201_227 P) (.node (o329_357 P) .nil .nil) .nil)) (.node (o105_123 P) (.node (o169_195 P) (.node (o297_325 P) .nil .nil) .nil) (.node (o233_259 P) .nil .nil))) (.node (o57_62 P) (.node (o89_100 P) (.node (o153_179 P) (.node (o281_309 P) .nil .nil) .nil) (.node (o217_243 P) (.node (o345_373 P) .nil .nil) .nil)) (.node (o121_142 P) (.node (o185_211 P) (.node (o313_341 P) .nil .nil) .nil) (.node (o249_275 P) .nil .nil))))) (.node (o13_2 P) (.node (o21_12 P) (.node (o37_35 P) (.node (o69_77 P) (.node (o133_157 P) (.node (o261_289 P) .nil .nil) .nil) (.node (o197_223 P) (.node (o325_353 P) .nil .nil) .nil)) (.node (o101_116 P) (.node (o165_191 P) (.node (o293_321 P) .nil .nil) .nil) (.node (o229_255 P) .nil .nil))) (.node (o53_55 P) (.node (o85_96 P) (.node (o149_175 P) (.node (o277_305 P) .nil .nil) .nil) (.node (o213_239 P) (.node (o341_369 P) .nil .nil) .nil)) (.node (o117_138 P) (.node (o181_207 P) (.node (o309_337 P) .nil .nil) .nil) (.node (o245_271 P) .nil .nil)))) (.node (o29_25 P) (.node (o45_47 P) (.node (o77_85 P) (.node (o141_167 P) (.node (o269_297 P) .nil .nil) .nil) (.node (o205_231 P) (.node (o333_361 P) .nil .nil) .nil)) (.node (o109_127 P) (.node (o173_199 P) (.node (o301_329 P) .nil .nil) .nil) (.node (o237_263 P) .nil .nil))) (.node (o61_66 P) (.node (o93_108 P) (.node (o157_183 P) (.node (o285_313 P) .nil .nil) .nil) (.node (o221_247 P) (.node (o349_377 P) .nil .nil) .nil)) (.node (o125_146 P) (.node (o189_215 P) (.node (o317_345 P) .nil .nil) .nil) (.node (o253_279 P) .nil .nil))))))) (.node (o2_103 P) (.node (boot_o_4 P) (.node (boot_o_8 P) (.node (o16_7 P) (.node (o32_28 P) (.node (o64_69 P) (.node (o128_149 P) (.node (o256_282 P) .nil .nil) .nil) (.node (o192_218 P) (.node (o320_348 P) .nil .nil) .nil)) (.node (o96_111 P) (.node (o160_186 P) (.node (o288_316 P) .nil .nil) .nil) (.node (o224_250 P) .nil .nil))) (.node (o48_50 P) (.node (o80_91 P) (.node (o144_170 P) (.node (o272_300 P) .nil .nil) .nil) (.node (o208_234 P) (.node (o336_364 P) .nil .nil) .nil)) (.node (o112_130 P) (.node (o176_202 P) (.node (o304_332 P) .nil .nil) .nil) (.node (o240_266 P) .nil .nil)))) (.node (o24_18 P) (.node (o40_38 P) (.node (o72_80 P) (.node (o136_160 P) (.node (o264_292 P) .nil .nil) .nil) (.node (o200_226 P) (.node (o328_356 P) .nil .nil) .nil)) (.node (o104_119 P) (.node (o168_194 P) (.node (o296_324 P) .nil .nil) .nil) (.node (o232_258 P) .nil .nil))) (.node (o56_61 P) (.node (o88_99 P) (.node (o152_178 P) (.node (o280_308 P) .nil .nil) .nil) (.node (o216_242 P) (.node (o344_372 P) .nil .nil) .nil)) (.node (o120_141 P) (.node (o184_210 P) (.node (o312_340 P) .nil .nil) .nil) (.node (o248_274 P) .nil .nil))))) (.node (o12_285 P) (.node (o20_11 P) (.node (o36_34 P) (.node (o68_76 P) (.node (o132_156 P) (.node (o260_288 P) .nil .nil) .nil) (.node (o196_222 P) (.node (o324_352 P) .nil .nil) .nil)) (.node (o100_115 P) (.node (o164_190 P) (.node (o292_320 P) .nil .nil) .nil) (.node (o228_254 P) .nil .nil))) (.node (o52_152 P) (.node (o84_95 P) (.node (o148_174 P) (.node (o276_304 P) .nil .nil) .nil) (.node (o212_238 P) (.node (o340_368 P) .nil .nil) .nil)) (.node (o116_134 P) (.node (o180_206 P) (.node (o308_336 P) .nil .nil) .nil) (.node (o244_270 P) .nil .nil)))) (.node (o28_22 P) (.node (o44_46 P) (.node (o76_84 P) (.node (o140_164 P) (.node (o268_296 P) .nil .nil) .nil) (.node (o204_230 P) (.node (o332_360 P) .nil .nil) .nil)) (.node (o108_126 P) (.node (o172_198 P) (.node (o300_328 P) .nil .nil) .nil) (.node (o236_262 P) .nil .nil))) (.node (o60_65 P) (.node (o92_107 P) (.node (o156_182 P) (.node (o284_312 P) .nil .nil) .nil) (.node (o220_246 P) (.node (o348_376 P) .nil .nil) .nil)) (.node (o124_145 P) (.node (o188_214 P) (.node (o316_344 P) .nil .nil) .nil) (.node (o252_278 P) .nil .nil)))))) (.node (boot_o_6 P) (.node (boot_o_10 P) (.node (o18_9 P) (.node (o34_30 P) (.node (o66_71 P) (.node (o130_154 P) (.node (o258_286 P) .nil .nil) .nil) (.node (o194_220 P) (.node (o322_350 P) .nil .nil) .nil)) (.node (o98_113 P) (.node (o162_188 P) (.node (o290_318 P) .nil .nil) .nil) (.node (o226_252 P) .nil .nil))) (.node (o50_52 P) (.node (o82_93 P) (.node (o146_172 P) (.node (o274_302 P) .nil .nil) .nil) (.node (o210_236 P) (.node (o338_366 P) .nil .nil) .nil)) (.node (o114_132 P) (.node (o178_204 P) (.node (o306_334 P) .nil .nil) .nil) (.node (o242_268 P) .nil .nil)))) (.node (o26_20 P) (.node (o42_40 P) (.node (o74_82 P) (.node (o138_162 P) (.node (o266_294 P) .nil .nil) .nil) (.node (o202_228 P) (.node (o330_358 P) .nil .nil) .nil)) (.node (o106_124 P) (.node (o170_196 P) (.node (o298_326 P) .nil .nil) .nil) (.node (o234_260 P) .nil .nil))) (.node (o58_63 P) (.node (o90_101 P) (.node (o154_180 P) (.node (o282_310 P) .nil .nil) .nil) (.node (o218_244 P) (.node (o346_374 P) .nil .nil) .nil)) (.node (o122_143 P) (.node (o186_212 P) (.node (o314_342 P) .nil .nil) .nil) (.node (o250_276 P) .nil .nil))))) (.node (o14_3 P) (.node (o22_16 P) (.node (o38_36 P) (.node (o70_78 P) (.node (o134_158 P) (.node (o262_290 P) .nil .nil) .nil) (.node (o198_224 P) (.node (o326_354 P) .nil .nil) .nil)) (.node (o102_117 P) (.node (o166_192 P) (.node (o294_322 P) .nil .nil) .nil) (.node (o230_256 P) .nil .nil))) (.node (o54_56 P) (.node (o86_97 P) (.node (o150_176 P) (.node (o278_306 P) .nil .nil) .nil) (.node (o214_240 P) (.node (o342_370 P) .nil .nil) .nil)) (.node (o118_139 P) (.node (o182_208 P) (.node (o310_338 P) .nil .nil) .nil) (.node (o246_272 P) .nil .nil)))) (.node (o30_26 P) (.node (o46_48 P) (.node (o78_86 P) (.node (o142_168 P) (.node (o270_298 P) .nil .nil) .nil) (.node (o206_232 P) (.node (o334_362 P) .nil .nil) .nil)) (.node (o110_128 P) (.node (o174_200 P) (.node (o302_330 P) .nil .nil) .nil) (.node (o238_264 P) .nil .nil))) (.node (o62_67 P) (.node (o94_109 P) (.node (o158_184 P) (.node (o286_314 P) .nil .nil) .nil) (.node (o222_248 P) (.node (o350_378 P) .nil .nil) .nil)) (.node (o126_147 P) (.node (o190_216 P) (.node (o318_346 P) .nil .nil) .nil) (.node (o254_280 P) .nil .nil))))))))
noncomputable def S16 (w : World) (os : OsState) : SharedT := ⟨tr16 w.params, 352, lifeH, ⟨[]⟩, ⟨0, 0, 0, 0⟩, 633, os⟩
noncomputable def o3_381 (P : Params) : Obj := ⟨(.type "dict"), none, (.dict #[⟨(PyData.keyHash P (Str.ofString "__name__")), (.str (Str.ofString "__name__") 165), (.str (Str.ofString "law_jl0001_09") 631)⟩, ⟨(PyData.keyHash P (Str.ofString "__doc__")), (.str (Str.ofString "__doc__") 166), .none⟩, ⟨(PyData.keyHash P (Str.ofString "__package__")), (.str (Str.ofString "__package__") 167), .none⟩, ⟨(PyData.keyHash P (Str.ofString "__loader__")), (.str (Str.ofString "__loader__") 168), (.builtin "__main__.__loader__#opaque")⟩, ⟨(PyData.keyHash P (Str.ofString "__spec__")), (.str (Str.ofString "__spec__") 169), .none⟩, ⟨(PyData.keyHash P (Str.ofString "__annotations__")), (.str (Str.ofString "__annotations__") 170), (.ref 6)⟩, ⟨(PyData.keyHash P (Str.ofString "__builtins__")), (.str (Str.ofString "__builtins__") 171), (.ref 4)⟩, ⟨(PyData.keyHash P (Str.ofString "__file__")), (.str (Str.ofString "__file__") 173), (.str (Str.ofString "/claim/cut.py") 172)⟩, ⟨(PyData.keyHash P (Str.ofString "__cached__")), (.str (Str.ofString "__cached__") 174), .none⟩, ⟨(PyData.keyHash P (Str.ofString "_wall")), (.str (Str.ofString "_wall") 193), (.ref 21)⟩, ⟨(PyData.keyHash P (Str.ofString "_ahead")), (.str (Str.ofString "_ahead") 203), (.ref 28)⟩, ⟨(PyData.keyHash P (Str.ofString "heappush")), (.str (Str.ofString "heappush") 212), (.ref 35)⟩, ⟨(PyData.keyHash P (Str.ofString "heappop")), (.str (Str.ofString "heappop") 219), (.ref 42)⟩, ⟨(PyData.keyHash P (Str.ofString "PriorityError")), (.str (Str.ofString "PriorityError") 241), (.ref 52)⟩, ⟨(PyData.keyHash P (Str.ofString "DeadlockError")), (.str (Str.ofString "DeadlockError") 257), (.ref 65)⟩, ⟨(PyData.keyHash P (Str.ofString "PriorityLoop")), (.str (Str.ofString "PriorityLoop") 273), (.ref 77)⟩, ⟨(PyData.keyHash P (Str.ofString "DuplicateStreamError")), (.str (Str.ofString "DuplicateStreamError") 289), (.ref 89)⟩, ⟨(PyData.keyHash P (Str.ofString "MissingStreamError")), (.str (Str.ofString "MissingStreamError") 309), (.ref 101)⟩, ⟨(PyData.keyHash P (Str.ofString "TooManyStreamsError")), (.str (Str.ofString "TooManyStreamsError") 325), (.ref 114)⟩, ⟨(PyData.keyHash P (Str.ofString "BadWeightError")), (.str (Str.ofString "BadWeightError") 341), (.ref 126)⟩, ⟨(PyData.keyHash P (Str.ofString "PseudoStreamError")), (.str (Str.ofString "PseudoStreamError") 357), (.ref 138)⟩, ⟨(PyData.keyHash P (Str.ofString "Stream")), (.str (Str.ofString "Stream") 509), (.ref 253)⟩, ⟨(PyData.keyHash P (Str.ofString "PriorityTree")), (.str (Str.ofString "PriorityTree") 630), (.ref 347)⟩, ⟨(PyData.keyHash P (Str.ofString "_law_live")), (.str (Str.ofString "_law_live") 642), (.ref 358)⟩] 24), #[]⟩
noncomputable def o12_382 (P : Params) : Obj := ⟨.none, none, (.fields #[(.int 1 0), (.int 0 0), (.ref 20), (.int 5 0), (.int 0 0), (.ref 27), (.int 9 0), (.int 0 0), (.ref 34), (.int 14 0), (.int 0 0), (.ref 41), (.int 17 0), (.int 0 0), (.ref 48), (.int 19 0), (.int 0 0), (.ref 61), (.int 21 0), (.int 0 0), (.ref 73), (.int 23 0), (.int 0 0), (.ref 85), (.int 25 0), (.int 0 0), (.ref 97), (.int 27 0), (.int 0 0), (.ref 110), (.int 29 0), (.int 0 0), (.ref 122), (.int 31 0), (.int 0 0), (.ref 134), (.int 33 0), (.int 0 0), (.ref 146), (.int 128 0), (.int 0 0), (.ref 263), (.int 199 0), (.int 0 0), (.ref 357)]), #[]⟩
noncomputable def o352_383 (P : Params) : Obj := ⟨(.type "tuple"), none, (.seq #[] 0), #[]⟩
noncomputable def o353_384 (P : Params) : Obj := ⟨.none, none, (.fields #[]), #[]⟩
noncomputable def o354_385 (P : Params) : Obj := ⟨(.type "tuple"), none, (.seq #[(.str (Str.ofString "rows") 636), (.str (Str.ofString "live") 637), (.str (Str.ofString "x") 638), (.str (Str.ofString "y") 639)] 0), #[]⟩
noncomputable def o355_386 (P : Params) : Obj := ⟨(.type "tuple"), none, (.seq #[] 0), #[]⟩
noncomputable def o356_387 (P : Params) : Obj := ⟨.none, none, (.func { name := (Str.ofString "_law_live"), qualname := (Str.ofString "_law_live"), params := (fnParams (stTop 17)), body := (.stmts (fnBody (stTop 17))), scope := (fnScope (stTop 17)), globals := 0, closure := [], defaults := .none, kwdefaults := .none, doc := .none, pyModule := .none, annotations := none, code := .none, closureTuple := .none, builtins := 0 }), #[]⟩
noncomputable def o357_388 (P : Params) : Obj := ⟨(.type "code"), none, (.fields #[(.str (Str.ofString "_law_live") 633), (.str (Str.ofString "_law_live") 634), (.str (Str.ofString "/claim/cut.py") 635), (.int 199 0), (.int 1 0), (.int 0 0), (.int 0 0), (.int 3 0), (.ref 352), (.bool true), (.int 181 0), (.ref 353), .none, (.ref 354), (.ref 355), (.ref 356), (.int 640 0), (.int 199 0), (.str (Str.ofString "/claim/cut.py") 641)]), #[]⟩
noncomputable def o358_389 (P : Params) : Obj := ⟨(.type "function"), none, (.func { name := (Str.ofString "_law_live"), qualname := (Str.ofString "_law_live"), params := (fnParams (stTop 17)), body := (.stmts (fnBody (stTop 17))), scope := (fnScope (stTop 17)), globals := 3, closure := [], defaults := .none, kwdefaults := .none, doc := .none, pyModule := (.str (Str.ofString "law_jl0001_09") 631), annotations := none, code := (.ref 357), closureTuple := .none, builtins := 0 }), #[]⟩
noncomputable def tr17 (P : Params) : BT := (.node (boot_o_0 P) (.node (boot_o_1 P) (.node (o3_381 P) (.node (boot_o_7 P) (.node (o15_6 P) (.node (o31_27 P) (.node (o63_68 P) (.node (o127_148 P) (.node (o255_281 P) .nil .nil) .nil) (.node (o191_217 P) (.node (o319_347 P) .nil .nil) .nil)) (.node (o95_110 P) (.node (o159_185 P) (.node (o287_315 P) .nil .nil) .nil) (.node (o223_249 P) (.node (o351_379 P) .nil .nil) .nil))) (.node (o47_49 P) (.node (o79_87 P) (.node (o143_169 P) (.node (o271_299 P) .nil .nil) .nil) (.node (o207_233 P) (.node (o335_363 P) .nil .nil) .nil)) (.node (o111_129 P) (.node (o175_201 P) (.node (o303_331 P) .nil .nil) .nil) (.node (o239_265 P) .nil .nil)))) (.node (o23_17 P) (.node (o39_37 P) (.node (o71_79 P) (.node (o135_159 P) (.node (o263_291 P) .nil .nil) .nil) (.node (o199_225 P) (.node (o327_355 P) .nil .nil) .nil)) (.node (o103_118 P) (.node (o167_193 P) (.node (o295_323 P) .nil .nil) .nil) (.node (o231_257 P) .nil .nil))) (.node (o55_57 P) (.node (o87_98 P) (.node (o151_177 P) (.node (o279_307 P) .nil .nil) .nil) (.node (o215_241 P) (.node (o343_371 P) .nil .nil) .nil)) (.node (o119_140 P) (.node (o183_209 P) (.node (o311_339 P) .nil .nil) .nil) (.node (o247_273 P) .nil .nil))))) (.node (o11_0 P) (.node (o19_10 P) (.node (o35_31 P) (.node (o67_72 P) (.node (o131_155 P) (.node (o259_287 P) .nil .nil) .nil) (.node (o195_221 P) (.node (o323_351 P) .nil .nil) .nil)) (.node (o99_114 P) (.node (o163_189 P) (.node (o291_319 P) .nil .nil) .nil) (.node (o227_253 P) (.node (o355_386 P) .nil .nil) .nil))) (.node (o51_53 P) (.node (o83_94 P) (.node (o147_173 P) (.node (o275_303 P) .nil .nil) .nil) (.node (o211_237 P) (.node (o339_367 P) .nil .nil) .nil)) (.node (o115_133 P) (.node (o179_205 P) (.node (o307_335 P) .nil .nil) .nil) (.node (o243_269 P) .nil .nil)))) (.node (o27_21 P) (.node (o43_45 P) (.node (o75_83 P) (.node (o139_163 P) (.node (o267_295 P) .nil .nil) .nil) (.node (o203_229 P) (.node (o331_359 P) .nil .nil) .nil)) (.node (o107_125 P) (.node (o171_197 P) (.node (o299_327 P) .nil .nil) .nil) (.node (o235_261 P) .nil .nil))) (.node (o59_64 P) (.node (o91_102 P) (.node (o155_181 P) (.node (o283_311 P) .nil .nil) .nil) (.node (o219_245 P) (.node (o347_375 P) .nil .nil) .nil)) (.node (o123_144 P) (.node (o187_213 P) (.node (o315_343 P) .nil .nil) .nil) (.node (o251_277 P) .nil .nil)))))) (.node (boot_o_5 P) (.node (boot_o_9 P) (.node (o17_8 P) (.node (o33_29 P) (.node (o65_70 P) (.node (o129_153 P) (.node (o257_283 P) .nil .nil) .nil) (.node (o193_219 P) (.node (o321_349 P) .nil .nil) .nil)) (.node (o97_112 P) (.node (o161_187 P) (.node (o289_317 P) .nil .nil) .nil) (.node (o225_251 P) (.node (o353_384 P) .nil .nil) .nil))) (.node (o49_51 P) (.node (o81_92 P) (.node (o145_171 P) (.node (o273_301 P) .nil .nil) .nil) (.node (o209_235 P) (.node (o337_365 P) .nil .nil) .nil)) (.node (o113_131 P) (.node (o177_203 P) (.node (o305_333 P) .nil .nil) .nil) (.node (o241_267 P) .nil .nil)))) (.node (o25_19 P) (.node (o41_39 P) (.node (o73_81 P) (.node (o137_161 P) (.node (o265_293 P) .nil .nil) .nil) (.node (o201_227 P) (.node (o329_357 P) .nil .nil) .nil)) (.node (o105_123 P) (.node (o169_195 P) (.node (o297_325 P) .nil .nil) .nil) (.node (o233_259 P) .nil .nil))) (.node (o57_62 P) (.node (o89_100 P) (.node (o153_179 P) (.node (o281_309 P) .nil .nil) .nil) (.node (o217_243 P) (.node (o345_373 P) .nil .nil) .nil)) (.node (o121_142 P) (.node (o185_211 P) (.node (o313_341 P) .nil .nil) .nil) (.node (o249_275 P) .nil .nil))))) (.node (o13_2 P) (.node (o21_12 P) (.node (o37_35 P) (.node (o69_77 P) (.node (o133_157 P) (.node (o261_289 P) .nil .nil) .nil) (.node (o197_223 P) (.node (o325_353 P) .nil .nil) .nil)) (.node (o101_116 P) (.node (o165_191 P) (.node (o293_321 P) .nil .nil) .nil) (.node (o229_255 P) (.node (o357_388 P) .nil .nil) .nil))) (.node (o53_55 P) (.node (o85_96 P) (.node (o149_175 P) (.node (o277_305 P) .nil .nil) .nil) (.node (o213_239 P) (.node (o341_369 P) .nil .nil) .nil)) (.node (o117_138 P) (.node (o181_207 P) (.node (o309_337 P) .nil .nil) .nil) (.node (o245_271 P) .nil .nil)))) (.node (o29_25 P) (.node (o45_47 P) (.node (o77_85 P) (.node (o141_167 P) (.node (o269_297 P) .nil .nil) .nil) (.node (o205_231 P) (.node (o333_361 P) .nil .nil) .nil)) (.node (o109_127 P) (.node (o173_199 P) (.node (o301_329 P) .nil .nil) .nil) (.node (o237_263 P) .nil .nil))) (.node (o61_66 P) (.node (o93_108 P) (.node (o157_183 P) (.node (o285_313 P) .nil .nil) .nil) (.node (o221_247 P) (.node (o349_377 P) .nil .nil) .nil)) (.node (o125_146 P) (.node (o189_215 P) (.node (o317_345 P) .nil .nil) .nil) (.node (o253_279 P) .nil .nil))))))) (.node (o2_103 P) (.node (boot_o_4 P) (.node (boot_o_8 P) (.node (o16_7 P) (.node (o32_28 P) (.node (o64_69 P) (.node (o128_149 P) (.node (o256_282 P) .nil .nil) .nil) (.node (o192_218 P) (.node (o320_348 P) .nil .nil) .nil)) (.node (o96_111 P) (.node (o160_186 P) (.node (o288_316 P) .nil .nil) .nil) (.node (o224_250 P) (.node (o352_383 P) .nil .nil) .nil))) (.node (o48_50 P) (.node (o80_91 P) (.node (o144_170 P) (.node (o272_300 P) .nil .nil) .nil) (.node (o208_234 P) (.node (o336_364 P) .nil .nil) .nil)) (.node (o112_130 P) (.node (o176_202 P) (.node (o304_332 P) .nil .nil) .nil) (.node (o240_266 P) .nil .nil)))) (.node (o24_18 P) (.node (o40_38 P) (.node (o72_80 P) (.node (o136_160 P) (.node (o264_292 P) .nil .nil) .nil) (.node (o200_226 P) (.node (o328_356 P) .nil .nil) .nil)) (.node (o104_119 P) (.node (o168_194 P) (.node (o296_324 P) .nil .nil) .nil) (.node (o232_258 P) .nil .nil))) (.node (o56_61 P) (.node (o88_99 P) (.node (o152_178 P) (.node (o280_308 P) .nil .nil) .nil) (.node (o216_242 P) (.node (o344_372 P) .nil .nil) .nil)) (.node (o120_141 P) (.node (o184_210 P) (.node (o312_340 P) .nil .nil) .nil) (.node (o248_274 P) .nil .nil))))) (.node (o12_382 P) (.node (o20_11 P) (.node (o36_34 P) (.node (o68_76 P) (.node (o132_156 P) (.node (o260_288 P) .nil .nil) .nil) (.node (o196_222 P) (.node (o324_352 P) .nil .nil) .nil)) (.node (o100_115 P) (.node (o164_190 P) (.node (o292_320 P) .nil .nil) .nil) (.node (o228_254 P) (.node (o356_387 P) .nil .nil) .nil))) (.node (o52_152 P) (.node (o84_95 P) (.node (o148_174 P) (.node (o276_304 P) .nil .nil) .nil) (.node (o212_238 P) (.node (o340_368 P) .nil .nil) .nil)) (.node (o116_134 P) (.node (o180_206 P) (.node (o308_336 P) .nil .nil) .nil) (.node (o244_270 P) .nil .nil)))) (.node (o28_22 P) (.node (o44_46 P) (.node (o76_84 P) (.node (o140_164 P) (.node (o268_296 P) .nil .nil) .nil) (.node (o204_230 P) (.node (o332_360 P) .nil .nil) .nil)) (.node (o108_126 P) (.node (o172_198 P) (.node (o300_328 P) .nil .nil) .nil) (.node (o236_262 P) .nil .nil))) (.node (o60_65 P) (.node (o92_107 P) (.node (o156_182 P) (.node (o284_312 P) .nil .nil) .nil) (.node (o220_246 P) (.node (o348_376 P) .nil .nil) .nil)) (.node (o124_145 P) (.node (o188_214 P) (.node (o316_344 P) .nil .nil) .nil) (.node (o252_278 P) .nil .nil)))))) (.node (boot_o_6 P) (.node (boot_o_10 P) (.node (o18_9 P) (.node (o34_30 P) (.node (o66_71 P) (.node (o130_154 P) (.node (o258_286 P) .nil .nil) .nil) (.node (o194_220 P) (.node (o322_350 P) .nil .nil) .nil)) (.node (o98_113 P) (.node (o162_188 P) (.node (o290_318 P) .nil .nil) .nil) (.node (o226_252 P) (.node (o354_385 P) .nil .nil) .nil))) (.node (o50_52 P) (.node (o82_93 P) (.node (o146_172 P) (.node (o274_302 P) .nil .nil) .nil) (.node (o210_236 P) (.node (o338_366 P) .nil .nil) .nil)) (.node (o114_132 P) (.node (o178_204 P) (.node (o306_334 P) .nil .nil) .nil) (.node (o242_268 P) .nil .nil)))) (.node (o26_20 P) (.node (o42_40 P) (.node (o74_82 P) (.node (o138_162 P) (.node (o266_294 P) .nil .nil) .nil) (.node (o202_228 P) (.node (o330_358 P) .nil .nil) .nil)) (.node (o106_124 P) (.node (o170_196 P) (.node (o298_326 P) .nil .nil) .nil) (.node (o234_260 P) .nil .nil))) (.node (o58_63 P) (.node (o90_101 P) (.node (o154_180 P) (.node (o282_310 P) .nil .nil) .nil) (.node (o218_244 P) (.node (o346_374 P) .nil .nil) .nil)) (.node (o122_143 P) (.node (o186_212 P) (.node (o314_342 P) .nil .nil) .nil) (.node (o250_276 P) .nil .nil))))) (.node (o14_3 P) (.node (o22_16 P) (.node (o38_36 P) (.node (o70_78 P) (.node (o134_158 P) (.node (o262_290 P) .nil .nil) .nil) (.node (o198_224 P) (.node (o326_354 P) .nil .nil) .nil)) (.node (o102_117 P) (.node (o166_192 P) (.node (o294_322 P) .nil .nil) .nil) (.node (o230_256 P) (.node (o358_389 P) .nil .nil) .nil))) (.node (o54_56 P) (.node (o86_97 P) (.node (o150_176 P) (.node (o278_306 P) .nil .nil) .nil) (.node (o214_240 P) (.node (o342_370 P) .nil .nil) .nil)) (.node (o118_139 P) (.node (o182_208 P) (.node (o310_338 P) .nil .nil) .nil) (.node (o246_272 P) .nil .nil)))) (.node (o30_26 P) (.node (o46_48 P) (.node (o78_86 P) (.node (o142_168 P) (.node (o270_298 P) .nil .nil) .nil) (.node (o206_232 P) (.node (o334_362 P) .nil .nil) .nil)) (.node (o110_128 P) (.node (o174_200 P) (.node (o302_330 P) .nil .nil) .nil) (.node (o238_264 P) .nil .nil))) (.node (o62_67 P) (.node (o94_109 P) (.node (o158_184 P) (.node (o286_314 P) .nil .nil) .nil) (.node (o222_248 P) (.node (o350_378 P) .nil .nil) .nil)) (.node (o126_147 P) (.node (o190_216 P) (.node (o318_346 P) .nil .nil) .nil) (.node (o254_280 P) .nil .nil))))))))
noncomputable def S17 (w : World) (os : OsState) : SharedT := ⟨tr17 w.params, 359, lifeH, ⟨[]⟩, ⟨0, 0, 0, 0⟩, 643, os⟩
noncomputable def o3_390 (P : Params) : Obj := ⟨(.type "dict"), none, (.dict #[⟨(PyData.keyHash P (Str.ofString "__name__")), (.str (Str.ofString "__name__") 165), (.str (Str.ofString "law_jl0001_09") 631)⟩, ⟨(PyData.keyHash P (Str.ofString "__doc__")), (.str (Str.ofString "__doc__") 166), .none⟩, ⟨(PyData.keyHash P (Str.ofString "__package__")), (.str (Str.ofString "__package__") 167), .none⟩, ⟨(PyData.keyHash P (Str.ofString "__loader__")), (.str (Str.ofString "__loader__") 168), (.builtin "__main__.__loader__#opaque")⟩, ⟨(PyData.keyHash P (Str.ofString "__spec__")), (.str (Str.ofString "__spec__") 169), .none⟩, ⟨(PyData.keyHash P (Str.ofString "__annotations__")), (.str (Str.ofString "__annotations__") 170), (.ref 6)⟩, ⟨(PyData.keyHash P (Str.ofString "__builtins__")), (.str (Str.ofString "__builtins__") 171), (.ref 4)⟩, ⟨(PyData.keyHash P (Str.ofString "__file__")), (.str (Str.ofString "__file__") 173), (.str (Str.ofString "/claim/cut.py") 172)⟩, ⟨(PyData.keyHash P (Str.ofString "__cached__")), (.str (Str.ofString "__cached__") 174), .none⟩, ⟨(PyData.keyHash P (Str.ofString "_wall")), (.str (Str.ofString "_wall") 193), (.ref 21)⟩, ⟨(PyData.keyHash P (Str.ofString "_ahead")), (.str (Str.ofString "_ahead") 203), (.ref 28)⟩, ⟨(PyData.keyHash P (Str.ofString "heappush")), (.str (Str.ofString "heappush") 212), (.ref 35)⟩, ⟨(PyData.keyHash P (Str.ofString "heappop")), (.str (Str.ofString "heappop") 219), (.ref 42)⟩, ⟨(PyData.keyHash P (Str.ofString "PriorityError")), (.str (Str.ofString "PriorityError") 241), (.ref 52)⟩, ⟨(PyData.keyHash P (Str.ofString "DeadlockError")), (.str (Str.ofString "DeadlockError") 257), (.ref 65)⟩, ⟨(PyData.keyHash P (Str.ofString "PriorityLoop")), (.str (Str.ofString "PriorityLoop") 273), (.ref 77)⟩, ⟨(PyData.keyHash P (Str.ofString "DuplicateStreamError")), (.str (Str.ofString "DuplicateStreamError") 289), (.ref 89)⟩, ⟨(PyData.keyHash P (Str.ofString "MissingStreamError")), (.str (Str.ofString "MissingStreamError") 309), (.ref 101)⟩, ⟨(PyData.keyHash P (Str.ofString "TooManyStreamsError")), (.str (Str.ofString "TooManyStreamsError") 325), (.ref 114)⟩, ⟨(PyData.keyHash P (Str.ofString "BadWeightError")), (.str (Str.ofString "BadWeightError") 341), (.ref 126)⟩, ⟨(PyData.keyHash P (Str.ofString "PseudoStreamError")), (.str (Str.ofString "PseudoStreamError") 357), (.ref 138)⟩, ⟨(PyData.keyHash P (Str.ofString "Stream")), (.str (Str.ofString "Stream") 509), (.ref 253)⟩, ⟨(PyData.keyHash P (Str.ofString "PriorityTree")), (.str (Str.ofString "PriorityTree") 630), (.ref 347)⟩, ⟨(PyData.keyHash P (Str.ofString "_law_live")), (.str (Str.ofString "_law_live") 642), (.ref 358)⟩, ⟨(PyData.keyHash P (Str.ofString "_law_shares")), (.str (Str.ofString "_law_shares") 648), (.ref 363)⟩] 25), #[]⟩
noncomputable def o12_391 (P : Params) : Obj := ⟨.none, none, (.fields #[(.int 1 0), (.int 0 0), (.ref 20), (.int 5 0), (.int 0 0), (.ref 27), (.int 9 0), (.int 0 0), (.ref 34), (.int 14 0), (.int 0 0), (.ref 41), (.int 17 0), (.int 0 0), (.ref 48), (.int 19 0), (.int 0 0), (.ref 61), (.int 21 0), (.int 0 0), (.ref 73), (.int 23 0), (.int 0 0), (.ref 85), (.int 25 0), (.int 0 0), (.ref 97), (.int 27 0), (.int 0 0), (.ref 110), (.int 29 0), (.int 0 0), (.ref 122), (.int 31 0), (.int 0 0), (.ref 134), (.int 33 0), (.int 0 0), (.ref 146), (.int 128 0), (.int 0 0), (.ref 263), (.int 199 0), (.int 0 0), (.ref 357), (.int 207 0), (.int 0 0), (.ref 362)]), #[]⟩
noncomputable def o359_392 (P : Params) : Obj := ⟨(.type "tuple"), none, (.seq #[] 0), #[]⟩
noncomputable def o360_393 (P : Params) : Obj := ⟨.none, none, (.fields #[]), #[]⟩
noncomputable def o361_394 (P : Params) : Obj := ⟨.none, none, (.func { name := (Str.ofString "_law_shares"), qualname := (Str.ofString "_law_shares"), params := (fnParams (stTop 18)), body := (.stmts (fnBody (stTop 18))), scope := (fnScope (stTop 18)), globals := 0, closure := [], defaults := .none, kwdefaults := .none, doc := .none, pyModule := .none, annotations := none, code := .none, closureTuple := .none, builtins := 0 }), #[]⟩
noncomputable def o362_395 (P : Params) : Obj := ⟨(.type "code"), none, (.fields #[(.str (Str.ofString "_law_shares") 643), (.str (Str.ofString "_law_shares") 644), (.str (Str.ofString "/claim/cut.py") 645), (.int 207 0), (.int 2 0), (.int 0 0), (.int 0 0), (.int 3 0), (.ref 359), (.bool true), (.int 181 0), (.ref 360), .none, .none, .none, (.ref 361), (.int 646 0), (.int 207 0), (.str (Str.ofString "/claim/cut.py") 647)]), #[]⟩
noncomputable def o363_396 (P : Params) : Obj := ⟨(.type "function"), none, (.func { name := (Str.ofString "_law_shares"), qualname := (Str.ofString "_law_shares"), params := (fnParams (stTop 18)), body := (.stmts (fnBody (stTop 18))), scope := (fnScope (stTop 18)), globals := 3, closure := [], defaults := .none, kwdefaults := .none, doc := .none, pyModule := (.str (Str.ofString "law_jl0001_09") 631), annotations := none, code := (.ref 362), closureTuple := .none, builtins := 0 }), #[]⟩
noncomputable def tr18 (P : Params) : BT := (.node (boot_o_0 P) (.node (boot_o_1 P) (.node (o3_390 P) (.node (boot_o_7 P) (.node (o15_6 P) (.node (o31_27 P) (.node (o63_68 P) (.node (o127_148 P) (.node (o255_281 P) .nil .nil) .nil) (.node (o191_217 P) (.node (o319_347 P) .nil .nil) .nil)) (.node (o95_110 P) (.node (o159_185 P) (.node (o287_315 P) .nil .nil) .nil) (.node (o223_249 P) (.node (o351_379 P) .nil .nil) .nil))) (.node (o47_49 P) (.node (o79_87 P) (.node (o143_169 P) (.node (o271_299 P) .nil .nil) .nil) (.node (o207_233 P) (.node (o335_363 P) .nil .nil) .nil)) (.node (o111_129 P) (.node (o175_201 P) (.node (o303_331 P) .nil .nil) .nil) (.node (o239_265 P) .nil .nil)))) (.node (o23_17 P) (.node (o39_37 P) (.node (o71_79 P) (.node (o135_159 P) (.node (o263_291 P) .nil .nil) .nil) (.node (o199_225 P) (.node (o327_355 P) .nil .nil) .nil)) (.node (o103_118 P) (.node (o167_193 P) (.node (o295_323 P) .nil .nil) .nil) (.node (o231_257 P) (.node (o359_392 P) .nil .nil) .nil))) (.node (o55_57 P) (.node (o87_98 P) (.node (o151_177 P) (.node (o279_307 P) .nil .nil) .nil) (.node (o215_241 P) (.node (o343_371 P) .nil .nil) .nil)) (.node (o119_140 P) (.node (o183_209 P) (.node (o311_339 P) .nil .nil) .nil) (.node (o247_273 P) .nil .nil))))) (.node (o11_0 P) (.node (o19_10 P) (.node (o35_31 P) (.node (o67_72 P) (.node (o131_155 P) (.node (o259_287 P) .nil .nil) .nil) (.node (o195_221 P) (.node (o323_351 P) .nil .nil) .nil)) (.node (o99_114 P) (.node (o163_189 P) (.node (o291_319 P) .nil .nil) .nil) (.node (o227_253 P) (.node (o355_386 P) .nil .nil) .nil))) (.node (o51_53 P) (.node (o83_94 P) (.node (o147_173 P) (.node (o275_303 P) .nil .nil) .nil) (.node (o211_237 P) (.node (o339_367 P) .nil .nil) .nil)) (.node (o115_133 P) (.node (o179_205 P) (.node (o307_335 P) .nil .nil) .nil) (.node (o243_269 P) .nil .nil)))) (.node (o27_21 P) (.node (o43_45 P) (.node (o75_83 P) (.node (o139_163 P) (.node (o267_295 P) .nil .nil) .nil) (.node (o203_229 P) (.node (o331_359 P) .nil .nil) .nil)) (.node (o107_125 P) (.node (o171_197 P) (.node (o299_327 P) .nil .nil) .nil) (.node (o235_261 P) (.node (o363_396 P) .nil .nil) .nil))) (.node (o59_64 P) (.node (o91_102 P) (.node (o155_181 P) (.node (o283_311 P) .nil .nil) .nil) (.node (o219_245 P) (.node (o347_375 P) .nil .nil) .nil)) (.node (o123_144 P) (.node (o187_213 P) (.node (o315_343 P) .nil .nil) .nil) (.node (o251_277 P) .nil .nil)))))) (.node (boot_o_5 P) (.node (boot_o_9 P) (.node (o17_8 P) (.node (o33_29 P) (.node (o65_70 P) (.node (o129_153 P) (.node (o257_283 P) .nil .nil) .nil) (.node (o193_219 P) (.node (o321_349 P) .nil .nil) .nil)) (.node (o97_112 P) (.node (o161_187 P) (.node (o289_317 P) .nil .nil) .nil) (.node (o225_251 P) (.node (o353_384 P) .nil .nil) .nil))) (.node (o49_51 P) (.node (o81_92 P) (.node (o145_171 P) (.node (o273_301 P) .nil .nil) .nil) (.node (o209_235 P) (.node (o337_365 P) .nil .nil) .nil)) (.node (o113_131 P) (.node (o177_203 P) (.node (o305_333 P) .nil .nil) .nil) (.node (o241_267 P) .nil .nil)))) (.node (o25_19 P) (.node (o41_39 P) (.node (o73_81 P) (.node (o137_161 P) (.node (o265_293 P) .nil .nil) .nil) (.node (o201_227 P) (.node (o329_357 P) .nil .nil) .nil)) (.node (o105_123 P) (.node (o169_195 P) (.node (o297_325 P) .nil .nil) .nil) (.node (o233_259 P) (.node (o361_394 P) .nil .nil) .nil))) (.node (o57_62 P) (.node (o89_100 P) (.node (o153_179 P) (.node (o281_309 P) .nil .nil) .nil) (.node (o217_243 P) (.node (o345_373 P) .nil .nil) .nil)) (.node (o121_142 P) (.node (o185_211 P) (.node (o313_341 P) .nil .nil) .nil) (.node (o249_275 P) .nil .nil))))) (.node (o13_2 P) (.node (o21_12 P) (.node (o37_35 P) (.node (o69_77 P) (.node (o133_157 P) (.node (o261_289 P) .nil .nil) .nil) (.node (o197_223 P) (.node (o325_353 P) .nil .nil) .nil)) (.node (o101_116 P) (.node (o165_191 P) (.node (o293_321 P) .nil .nil) .nil) (.node (o229_255 P) (.node (o357_388 P) .nil .nil) .nil))) (.node (o53_55 P) (.node (o85_96 P) (.node (o149_175 P) (.node (o277_305 P) .nil .nil) .nil) (.node (o213_239 P) (.node (o341_369 P) .nil .nil) .nil)) (.node (o117_138 P) (.node (o181_207 P) (.node (o309_337 P) .nil .nil) .nil) (.node (o245_271 P) .nil .nil)))) (.node (o29_25 P) (.node (o45_47 P) (.node (o77_85 P) (.node (o141_167 P) (.node (o269_297 P) .nil .nil) .nil) (.node (o205_231 P) (.node (o333_361 P) .nil .nil) .nil)) (.node (o109_127 P) (.node (o173_199 P) (.node (o301_329 P) .nil .nil) .nil) (.node (o237_263 P) .nil .nil))) (.node (o61_66 P) (.node (o93_108 P) (.node (o157_183 P) (.node (o285_313 P) .nil .nil) .nil) (.node (o221_247 P) (.node (o349_377 P) .nil .nil) .nil)) (.node (o125_146 P) (.node (o189_215 P) (.node (o317_345 P) .nil .nil) .nil) (.node (o253_279 P) .nil .nil))))))) (.node (o2_103 P) (.node (boot_o_4 P) (.node (boot_o_8 P) (.node (o16_7 P) (.node (o32_28 P) (.node (o64_69 P) (.node (o128_149 P) (.node (o256_282 P) .nil .nil) .nil) (.node (o192_218 P) (.node (o320_348 P) .nil .nil) .nil)) (.node (o96_111 P) (.node (o160_186 P) (.node (o288_316 P) .nil .nil) .nil) (.node (o224_250 P) (.node (o352_383 P) .nil .nil) .nil))) (.node (o48_50 P) (.node (o80_91 P) (.node (o144_170 P) (.node (o272_300 P) .nil .nil) .nil) (.node (o208_234 P) (.node (o336_364 P) .nil .nil) .nil)) (.node (o112_130 P) (.node (o176_202 P) (.node (o304_332 P) .nil .nil) .nil) (.node (o240_266 P) .nil .nil)))) (.node (o24_18 P) (.node (o40_38 P) (.node (o72_80 P) (.node (o136_160 P) (.node (o264_292 P) .nil .nil) .nil) (.node (o200_226 P) (.node (o328_356 P) .nil .nil) .nil)) (.node (o104_119 P) (.node (o168_194 P) (.node (o296_324 P) .nil .nil) .nil) (.node (o232_258 P) (.node (o360_393 P) .nil .nil) .nil))) (.node (o56_61 P) (.node (o88_99 P) (.node (o152_178 P) (.node (o280_308 P) .nil .nil) .nil) (.node (o216_242 P) (.node (o344_372 P) .nil .nil) .nil)) (.node (o120_141 P) (.node (o184_210 P) (.node (o312_340 P) .nil .nil) .nil) (.node (o248_274 P) .nil .nil))))) (.node (o12_391 P) (.node (o20_11 P) (.node (o36_34 P) (.node (o68_76 P) (.node (o132_156 P) (.node (o260_288 P) .nil .nil) .nil) (.node (o196_222 P) (.node (o324_352 P) .nil .nil) .nil)) (.node (o100_115 P) (.node (o164_190 P) (.node (o292_320 P) .nil .nil) .nil) (.node (o228_254 P) (.node (o356_387 P) .nil .nil) .nil))) (.node (o52_152 P) (.node (o84_95 P) (.node (o148_174 P) (.node (o276_304 P) .nil .nil) .nil) (.node (o212_238 P) (.node (o340_368 P) .nil .nil) .nil)) (.node (o116_134 P) (.node (o180_206 P) (.node (o308_336 P) .nil .nil) .nil) (.node (o244_270 P) .nil .nil)))) (.node (o28_22 P) (.node (o44_46 P) (.node (o76_84 P) (.node (o140_164 P) (.node (o268_296 P) .nil .nil) .nil) (.node (o204_230 P) (.node (o332_360 P) .nil .nil) .nil)) (.node (o108_126 P) (.node (o172_198 P) (.node (o300_328 P) .nil .nil) .nil) (.node (o236_262 P) .nil .nil))) (.node (o60_65 P) (.node (o92_107 P) (.node (o156_182 P) (.node (o284_312 P) .nil .nil) .nil) (.node (o220_246 P) (.node (o348_376 P) .nil .nil) .nil)) (.node (o124_145 P) (.node (o188_214 P) (.node (o316_344 P) .nil .nil) .nil) (.node (o252_278 P) .nil .nil)))))) (.node (boot_o_6 P) (.node (boot_o_10 P) (.node (o18_9 P) (.node (o34_30 P) (.node (o66_71 P) (.node (o130_154 P) (.node (o258_286 P) .nil .nil) .nil) (.node (o194_220 P) (.node (o322_350 P) .nil .nil) .nil)) (.node (o98_113 P) (.node (o162_188 P) (.node (o290_318 P) .nil .nil) .nil) (.node (o226_252 P) (.node (o354_385 P) .nil .nil) .nil))) (.node (o50_52 P) (.node (o82_93 P) (.node (o146_172 P) (.node (o274_302 P) .nil .nil) .nil) (.node (o210_236 P) (.node (o338_366 P) .nil .nil) .nil)) (.node (o114_132 P) (.node (o178_204 P) (.node (o306_334 P) .nil .nil) .nil) (.node (o242_268 P) .nil .nil)))) (.node (o26_20 P) (.node (o42_40 P) (.node (o74_82 P) (.node (o138_162 P) (.node (o266_294 P) .nil .nil) .nil) (.node (o202_228 P) (.node (o330_358 P) .nil .nil) .nil)) (.node (o106_124 P) (.node (o170_196 P) (.node (o298_326 P) .nil .nil) .nil) (.node (o234_260 P) (.node (o362_395 P) .nil .nil) .nil))) (.node (o58_63 P) (.node (o90_101 P) (.node (o154_180 P) (.node (o282_310 P) .nil .nil) .nil) (.node (o218_244 P) (.node (o346_374 P) .nil .nil) .nil)) (.node (o122_143 P) (.node (o186_212 P) (.node (o314_342 P) .nil .nil) .nil) (.node (o250_276 P) .nil .nil))))) (.node (o14_3 P) (.node (o22_16 P) (.node (o38_36 P) (.node (o70_78 P) (.node (o134_158 P) (.node (o262_290 P) .nil .nil) .nil) (.node (o198_224 P) (.node (o326_354 P) .nil .nil) .nil)) (.node (o102_117 P) (.node (o166_192 P) (.node (o294_322 P) .nil .nil) .nil) (.node (o230_256 P) (.node (o358_389 P) .nil .nil) .nil))) (.node (o54_56 P) (.node (o86_97 P) (.node (o150_176 P) (.node (o278_306 P) .nil .nil) .nil) (.node (o214_240 P) (.node (o342_370 P) .nil .nil) .nil)) (.node (o118_139 P) (.node (o182_208 P) (.node (o310_338 P) .nil .nil) .nil) (.node (o246_272 P) .nil .nil)))) (.node (o30_26 P) (.node (o46_48 P) (.node (o78_86 P) (.node (o142_168 P) (.node (o270_298 P) .nil .nil) .nil) (.node (o206_232 P) (.node (o334_362 P) .nil .nil) .nil)) (.node (o110_128 P) (.node (o174_200 P) (.node (o302_330 P) .nil .nil) .nil) (.node (o238_264 P) .nil .nil))) (.node (o62_67 P) (.node (o94_109 P) (.node (o158_184 P) (.node (o286_314 P) .nil .nil) .nil) (.node (o222_248 P) (.node (o350_378 P) .nil .nil) .nil)) (.node (o126_147 P) (.node (o190_216 P) (.node (o318_346 P) .nil .nil) .nil) (.node (o254_280 P) .nil .nil))))))))
noncomputable def S18 (w : World) (os : OsState) : SharedT := ⟨tr18 w.params, 364, lifeH, ⟨[]⟩, ⟨0, 0, 0, 0⟩, 649, os⟩
noncomputable def o3_397 (P : Params) : Obj := ⟨(.type "dict"), none, (.dict #[⟨(PyData.keyHash P (Str.ofString "__name__")), (.str (Str.ofString "__name__") 165), (.str (Str.ofString "law_jl0001_09") 631)⟩, ⟨(PyData.keyHash P (Str.ofString "__doc__")), (.str (Str.ofString "__doc__") 166), .none⟩, ⟨(PyData.keyHash P (Str.ofString "__package__")), (.str (Str.ofString "__package__") 167), .none⟩, ⟨(PyData.keyHash P (Str.ofString "__loader__")), (.str (Str.ofString "__loader__") 168), (.builtin "__main__.__loader__#opaque")⟩, ⟨(PyData.keyHash P (Str.ofString "__spec__")), (.str (Str.ofString "__spec__") 169), .none⟩, ⟨(PyData.keyHash P (Str.ofString "__annotations__")), (.str (Str.ofString "__annotations__") 170), (.ref 6)⟩, ⟨(PyData.keyHash P (Str.ofString "__builtins__")), (.str (Str.ofString "__builtins__") 171), (.ref 4)⟩, ⟨(PyData.keyHash P (Str.ofString "__file__")), (.str (Str.ofString "__file__") 173), (.str (Str.ofString "/claim/cut.py") 172)⟩, ⟨(PyData.keyHash P (Str.ofString "__cached__")), (.str (Str.ofString "__cached__") 174), .none⟩, ⟨(PyData.keyHash P (Str.ofString "_wall")), (.str (Str.ofString "_wall") 193), (.ref 21)⟩, ⟨(PyData.keyHash P (Str.ofString "_ahead")), (.str (Str.ofString "_ahead") 203), (.ref 28)⟩, ⟨(PyData.keyHash P (Str.ofString "heappush")), (.str (Str.ofString "heappush") 212), (.ref 35)⟩, ⟨(PyData.keyHash P (Str.ofString "heappop")), (.str (Str.ofString "heappop") 219), (.ref 42)⟩, ⟨(PyData.keyHash P (Str.ofString "PriorityError")), (.str (Str.ofString "PriorityError") 241), (.ref 52)⟩, ⟨(PyData.keyHash P (Str.ofString "DeadlockError")), (.str (Str.ofString "DeadlockError") 257), (.ref 65)⟩, ⟨(PyData.keyHash P (Str.ofString "PriorityLoop")), (.str (Str.ofString "PriorityLoop") 273), (.ref 77)⟩, ⟨(PyData.keyHash P (Str.ofString "DuplicateStreamError")), (.str (Str.ofString "DuplicateStreamError") 289), (.ref 89)⟩, ⟨(PyData.keyHash P (Str.ofString "MissingStreamError")), (.str (Str.ofString "MissingStreamError") 309), (.ref 101)⟩, ⟨(PyData.keyHash P (Str.ofString "TooManyStreamsError")), (.str (Str.ofString "TooManyStreamsError") 325), (.ref 114)⟩, ⟨(PyData.keyHash P (Str.ofString "BadWeightError")), (.str (Str.ofString "BadWeightError") 341), (.ref 126)⟩, ⟨(PyData.keyHash P (Str.ofString "PseudoStreamError")), (.str (Str.ofString "PseudoStreamError") 357), (.ref 138)⟩, ⟨(PyData.keyHash P (Str.ofString "Stream")), (.str (Str.ofString "Stream") 509), (.ref 253)⟩, ⟨(PyData.keyHash P (Str.ofString "PriorityTree")), (.str (Str.ofString "PriorityTree") 630), (.ref 347)⟩, ⟨(PyData.keyHash P (Str.ofString "_law_live")), (.str (Str.ofString "_law_live") 642), (.ref 358)⟩, ⟨(PyData.keyHash P (Str.ofString "_law_shares")), (.str (Str.ofString "_law_shares") 648), (.ref 363)⟩, ⟨(PyData.keyHash P (Str.ofString "law")), (.str (Str.ofString "law") 654), (.ref 368)⟩] 26), #[]⟩
noncomputable def o12_398 (P : Params) : Obj := ⟨.none, none, (.fields #[(.int 1 0), (.int 0 0), (.ref 20), (.int 5 0), (.int 0 0), (.ref 27), (.int 9 0), (.int 0 0), (.ref 34), (.int 14 0), (.int 0 0), (.ref 41), (.int 17 0), (.int 0 0), (.ref 48), (.int 19 0), (.int 0 0), (.ref 61), (.int 21 0), (.int 0 0), (.ref 73), (.int 23 0), (.int 0 0), (.ref 85), (.int 25 0), (.int 0 0), (.ref 97), (.int 27 0), (.int 0 0), (.ref 110), (.int 29 0), (.int 0 0), (.ref 122), (.int 31 0), (.int 0 0), (.ref 134), (.int 33 0), (.int 0 0), (.ref 146), (.int 128 0), (.int 0 0), (.ref 263), (.int 199 0), (.int 0 0), (.ref 357), (.int 207 0), (.int 0 0), (.ref 362), (.int 231 0), (.int 0 0), (.ref 367)]), #[]⟩
noncomputable def o364_399 (P : Params) : Obj := ⟨(.type "tuple"), none, (.seq #[] 0), #[]⟩
noncomputable def o365_400 (P : Params) : Obj := ⟨.none, none, (.fields #[]), #[]⟩
noncomputable def o366_401 (P : Params) : Obj := ⟨.none, none, (.func { name := (Str.ofString "law"), qualname := (Str.ofString "law"), params := (fnParams (stTop 19)), body := (.stmts (fnBody (stTop 19))), scope := (fnScope (stTop 19)), globals := 0, closure := [], defaults := .none, kwdefaults := .none, doc := .none, pyModule := .none, annotations := none, code := .none, closureTuple := .none, builtins := 0 }), #[]⟩
noncomputable def o367_402 (P : Params) : Obj := ⟨(.type "code"), none, (.fields #[(.str (Str.ofString "law") 649), (.str (Str.ofString "law") 650), (.str (Str.ofString "/claim/cut.py") 651), (.int 231 0), (.int 1 0), (.int 0 0), (.int 0 0), (.int 3 0), (.ref 364), (.bool true), (.int 181 0), (.ref 365), .none, .none, .none, (.ref 366), (.int 652 0), (.int 231 0), (.str (Str.ofString "/claim/cut.py") 653)]), #[]⟩
noncomputable def o368_403 (P : Params) : Obj := ⟨(.type "function"), none, (.func { name := (Str.ofString "law"), qualname := (Str.ofString "law"), params := (fnParams (stTop 19)), body := (.stmts (fnBody (stTop 19))), scope := (fnScope (stTop 19)), globals := 3, closure := [], defaults := .none, kwdefaults := .none, doc := .none, pyModule := (.str (Str.ofString "law_jl0001_09") 631), annotations := none, code := (.ref 367), closureTuple := .none, builtins := 0 }), #[]⟩
noncomputable def tr19 (P : Params) : BT := (.node (boot_o_0 P) (.node (boot_o_1 P) (.node (o3_397 P) (.node (boot_o_7 P) (.node (o15_6 P) (.node (o31_27 P) (.node (o63_68 P) (.node (o127_148 P) (.node (o255_281 P) .nil .nil) .nil) (.node (o191_217 P) (.node (o319_347 P) .nil .nil) .nil)) (.node (o95_110 P) (.node (o159_185 P) (.node (o287_315 P) .nil .nil) .nil) (.node (o223_249 P) (.node (o351_379 P) .nil .nil) .nil))) (.node (o47_49 P) (.node (o79_87 P) (.node (o143_169 P) (.node (o271_299 P) .nil .nil) .nil) (.node (o207_233 P) (.node (o335_363 P) .nil .nil) .nil)) (.node (o111_129 P) (.node (o175_201 P) (.node (o303_331 P) .nil .nil) .nil) (.node (o239_265 P) (.node (o367_402 P) .nil .nil) .nil)))) (.node (o23_17 P) (.node (o39_37 P) (.node (o71_79 P) (.node (o135_159 P) (.node (o263_291 P) .nil .nil) .nil) (.node (o199_225 P) (.node (o327_355 P) .nil .nil) .nil)) (.node (o103_118 P) (.node (o167_193 P) (.node (o295_323 P) .nil .nil) .nil) (.node (o231_257 P) (.node (o359_392 P) .nil .nil) .nil))) (.node (o55_57 P) (.node (o87_98 P) (.node (o151_177 P) (.node (o279_307 P) .nil .nil) .nil) (.node (o215_241 P) (.node (o343_371 P) .nil .nil) .nil)) (.node (o119_140 P) (.node (o183_209 P) (.node (o311_339 P) .nil .nil) .nil) (.node (o247_273 P) .nil .nil))))) (.node (o11_0 P) (.node (o19_10 P) (.node (o35_31 P) (.node (o67_72 P) (.node (o131_155 P) (.node (o259_287 P) .nil .nil) .nil) (.node (o195_221 P) (.node (o323_351 P) .nil .nil) .nil)) (.node (o99_114 P) (.node (o163_189 P) (.node (o291_319 P) .nil .nil) .nil) (.node (o227_253 P) (.node (o355_386 P) .nil .nil) .nil))) (.node (o51_53 P) (.node (o83_94 P) (.node (o147_173 P) (.node (o275_303 P) .nil .nil) .nil) (.node (o211_237 P) (.node (o339_367 P) .nil .nil) .nil)) (.node (o115_133 P) (.node (o179_205 P) (.node (o307_335 P) .nil .nil) .nil) (.node (o243_269 P) .nil .nil)))) (.node (o27_21 P) (.node (o43_45 P) (.node (o75_83 P) (.node (o139_163 P) (.node (o267_295 P) .nil .nil) .nil) (.node (o203_229 P) (.node (o331_359 P) .nil .nil) .nil)) (.node (o107_125 P) (.node (o171_197 P) (.node (o299_327 P) .nil .nil) .nil) (.node (o235_261 P) (.node (o363_396 P) .nil .nil) .nil))) (.node (o59_64 P) (.node (o91_102 P) (.node (o155_181 P) (.node (o283_311 P) .nil .nil) .nil) (.node (o219_245 P) (.node (o347_375 P) .nil .nil) .nil)) (.node (o123_144 P) (.node (o187_213 P) (.node (o315_343 P) .nil .nil) .nil) (.node (o251_277 P) .nil .nil)))))) (.node (boot_o_5 P) (.node (boot_o_9 P) (.node (o17_8 P) (.node (o33_29 P) (.node (o65_70 P) (.node (o129_153 P) (.node (o257_283 P) .nil .nil) .nil) (.node (o193_219 P) (.node (o321_349 P) .nil .nil) .nil)) (.node (o97_112 P) (.node (o161_187 P) (.node (o289_317 P) .nil .nil) .nil) (.node (o225_251 P) (.node (o353_384 P) .nil .nil) .nil))) (.node (o49_51 P) (.node (o81_92 P) (.node (o145_171 P) (.node (o273_301 P) .nil .nil) .nil) (.node (o209_235 P) (.node (o337_365 P) .nil .nil) .nil)) (.node (o113_131 P) (.node (o177_203 P) (.node (o305_333 P) .nil .nil) .nil) (.node (o241_267 P) .nil .nil)))) (.node (o25_19 P) (.node (o41_39 P) (.node (o73_81 P) (.node (o137_161 P) (.node (o265_293 P) .nil .nil) .nil) (.node (o201_227 P) (.node (o329_357 P) .nil .nil) .nil)) (.node (o105_123 P) (.node (o169_195 P) (.node (o297_325 P) .nil .nil) .nil) (.node (o233_259 P) (.node (o361_394 P) .nil .nil) .nil))) (.node (o57_62 P) (.node (o89_100 P) (.node (o153_179 P) (.node (o281_309 P) .nil .nil) .nil) (.node (o217_243 P) (.node (o345_373 P) .nil .nil) .nil)) (.node (o121_142 P) (.node (o185_211 P) (.node (o313_341 P) .nil .nil) .nil) (.node (o249_275 P) .nil .nil))))) (.node (o13_2 P) (.node (o21_12 P) (.node (o37_35 P) (.node (o69_77 P) (.node (o133_157 P) (.node (o261_289 P) .nil .nil) .nil) (.node (o197_223 P) (.node (o325_353 P) .nil .nil) .nil)) (.node (o101_116 P) (.node (o165_191 P) (.node (o293_321 P) .nil .nil) .nil) (.node (o229_255 P) (.node (o357_388 P) .nil .nil) .nil))) (.node (o53_55 P) (.node (o85_96 P) (.node (o149_175 P) (.node (o277_305 P) .nil .nil) .nil) (.node (o213_239 P) (.node (o341_369 P) .nil .nil) .nil)) (.node (o117_138 P) (.node (o181_207 P) (.node (o309_337 P) .nil .nil) .nil) (.node (o245_271 P) .nil .nil)))) (.node (o29_25 P) (.node (o45_47 P) (.node (o77_85 P) (.node (o141_167 P) (.node (o269_297 P) .nil .nil) .nil) (.node (o205_231 P) (.node (o333_361 P) .nil .nil) .nil)) (.node (o109_127 P) (.node (o173_199 P) (.node (o301_329 P) .nil .nil) .nil) (.node (o237_263 P) (.node (o365_400 P) .nil .nil) .nil))) (.node (o61_66 P) (.node (o93_108 P) (.node (o157_183 P) (.node (o285_313 P) .nil .nil) .nil) (.node (o221_247 P) (.node (o349_377 P) .nil .nil) .nil)) (.node (o125_146 P) (.node (o189_215 P) (.node (o317_345 P) .nil .nil) .nil) (.node (o253_279 P) .nil .nil))))))) (.node (o2_103 P) (.node (boot_o_4 P) (.node (boot_o_8 P) (.node (o16_7 P) (.node (o32_28 P) (.node (o64_69 P) (.node (o128_149 P) (.node (o256_282 P) .nil .nil) .nil) (.node (o192_218 P) (.node (o320_348 P) .nil .nil) .nil)) (.node (o96_111 P) (.node (o160_186 P) (.node (o288_316 P) .nil .nil) .nil) (.node (o224_250 P) (.node (o352_383 P) .nil .nil) .nil))) (.node (o48_50 P) (.node (o80_91 P) (.node (o144_170 P) (.node (o272_300 P) .nil .nil) .nil) (.node (o208_234 P) (.node (o336_364 P) .nil .nil) .nil)) (.node (o112_130 P) (.node (o176_202 P) (.node (o304_332 P) .nil .nil) .nil) (.node (o240_266 P) (.node (o368_403 P) .nil .nil) .nil)))) (.node (o24_18 P) (.node (o40_38 P) (.node (o72_80 P) (.node (o136_160 P) (.node (o264_292 P) .nil .nil) .nil) (.node (o200_226 P) (.node (o328_356 P) .nil .nil) .nil)) (.node (o104_119 P) (.node (o168_194 P) (.node (o296_324 P) .nil .nil) .nil) (.node (o232_258 P) (.node (o360_393 P) .nil .nil) .nil))) (.node (o56_61 P) (.node (o88_99 P) (.node (o152_178 P) (.node (o280_308 P) .nil .nil) .nil) (.node (o216_242 P) (.node (o344_372 P) .nil .nil) .nil)) (.node (o120_141 P) (.node (o184_210 P) (.node (o312_340 P) .nil .nil) .nil) (.node (o248_274 P) .nil .nil))))) (.node (o12_398 P) (.node (o20_11 P) (.node (o36_34 P) (.node (o68_76 P) (.node (o132_156 P) (.node (o260_288 P) .nil .nil) .nil) (.node (o196_222 P) (.node (o324_352 P) .nil .nil) .nil)) (.node (o100_115 P) (.node (o164_190 P) (.node (o292_320 P) .nil .nil) .nil) (.node (o228_254 P) (.node (o356_387 P) .nil .nil) .nil))) (.node (o52_152 P) (.node (o84_95 P) (.node (o148_174 P) (.node (o276_304 P) .nil .nil) .nil) (.node (o212_238 P) (.node (o340_368 P) .nil .nil) .nil)) (.node (o116_134 P) (.node (o180_206 P) (.node (o308_336 P) .nil .nil) .nil) (.node (o244_270 P) .nil .nil)))) (.node (o28_22 P) (.node (o44_46 P) (.node (o76_84 P) (.node (o140_164 P) (.node (o268_296 P) .nil .nil) .nil) (.node (o204_230 P) (.node (o332_360 P) .nil .nil) .nil)) (.node (o108_126 P) (.node (o172_198 P) (.node (o300_328 P) .nil .nil) .nil) (.node (o236_262 P) (.node (o364_399 P) .nil .nil) .nil))) (.node (o60_65 P) (.node (o92_107 P) (.node (o156_182 P) (.node (o284_312 P) .nil .nil) .nil) (.node (o220_246 P) (.node (o348_376 P) .nil .nil) .nil)) (.node (o124_145 P) (.node (o188_214 P) (.node (o316_344 P) .nil .nil) .nil) (.node (o252_278 P) .nil .nil)))))) (.node (boot_o_6 P) (.node (boot_o_10 P) (.node (o18_9 P) (.node (o34_30 P) (.node (o66_71 P) (.node (o130_154 P) (.node (o258_286 P) .nil .nil) .nil) (.node (o194_220 P) (.node (o322_350 P) .nil .nil) .nil)) (.node (o98_113 P) (.node (o162_188 P) (.node (o290_318 P) .nil .nil) .nil) (.node (o226_252 P) (.node (o354_385 P) .nil .nil) .nil))) (.node (o50_52 P) (.node (o82_93 P) (.node (o146_172 P) (.node (o274_302 P) .nil .nil) .nil) (.node (o210_236 P) (.node (o338_366 P) .nil .nil) .nil)) (.node (o114_132 P) (.node (o178_204 P) (.node (o306_334 P) .nil .nil) .nil) (.node (o242_268 P) .nil .nil)))) (.node (o26_20 P) (.node (o42_40 P) (.node (o74_82 P) (.node (o138_162 P) (.node (o266_294 P) .nil .nil) .nil) (.node (o202_228 P) (.node (o330_358 P) .nil .nil) .nil)) (.node (o106_124 P) (.node (o170_196 P) (.node (o298_326 P) .nil .nil) .nil) (.node (o234_260 P) (.node (o362_395 P) .nil .nil) .nil))) (.node (o58_63 P) (.node (o90_101 P) (.node (o154_180 P) (.node (o282_310 P) .nil .nil) .nil) (.node (o218_244 P) (.node (o346_374 P) .nil .nil) .nil)) (.node (o122_143 P) (.node (o186_212 P) (.node (o314_342 P) .nil .nil) .nil) (.node (o250_276 P) .nil .nil))))) (.node (o14_3 P) (.node (o22_16 P) (.node (o38_36 P) (.node (o70_78 P) (.node (o134_158 P) (.node (o262_290 P) .nil .nil) .nil) (.node (o198_224 P) (.node (o326_354 P) .nil .nil) .nil)) (.node (o102_117 P) (.node (o166_192 P) (.node (o294_322 P) .nil .nil) .nil) (.node (o230_256 P) (.node (o358_389 P) .nil .nil) .nil))) (.node (o54_56 P) (.node (o86_97 P) (.node (o150_176 P) (.node (o278_306 P) .nil .nil) .nil) (.node (o214_240 P) (.node (o342_370 P) .nil .nil) .nil)) (.node (o118_139 P) (.node (o182_208 P) (.node (o310_338 P) .nil .nil) .nil) (.node (o246_272 P) .nil .nil)))) (.node (o30_26 P) (.node (o46_48 P) (.node (o78_86 P) (.node (o142_168 P) (.node (o270_298 P) .nil .nil) .nil) (.node (o206_232 P) (.node (o334_362 P) .nil .nil) .nil)) (.node (o110_128 P) (.node (o174_200 P) (.node (o302_330 P) .nil .nil) .nil) (.node (o238_264 P) (.node (o366_401 P) .nil .nil) .nil))) (.node (o62_67 P) (.node (o94_109 P) (.node (o158_184 P) (.node (o286_314 P) .nil .nil) .nil) (.node (o222_248 P) (.node (o350_378 P) .nil .nil) .nil)) (.node (o126_147 P) (.node (o190_216 P) (.node (o318_346 P) .nil .nil) .nil) (.node (o254_280 P) .nil .nil))))))))
noncomputable def S19 (w : World) (os : OsState) : SharedT := ⟨tr19 w.params, 369, lifeH, ⟨[]⟩, ⟨0, 0, 0, 0⟩, 655, os⟩
noncomputable def bd : List Stmt := behindTheImports pg
noncomputable def env : Env := { scope := pg.main.scope, locals := mainNs, globals := mainNs, cells := [], code := .ref 13, frame := some 14 }
noncomputable def cE : Code := .body bd env
noncomputable abbrev qP : Pos := ⟨0, 0, 0, 0⟩
theorem pc0 (w : World) (os : OsState) : segRunT treeTable pg w 11 (some (.ref 6)) 1 30 (SB w os) (piecesOf ((bd.drop 0).take 1) env cE ⟨0, 0, 0, 0⟩ [topFrame qP]) = some (.next, S0 w os, cE, ⟨1, 0, 3, 12⟩) := by
  rw [Fast.te10110043849684766642, Fast.te14364793385576792824]
  unfold piecesOf
  rw [Fast.te12563942051412417395]
  kernel_rfl
theorem pc1 (w : World) (os : OsState) : segRunT treeTable pg w 11 (some (.ref 6)) 1 10 (S0 w os) (piecesOf ((bd.drop 1).take 1) env cE ⟨1, 0, 3, 12⟩ [topFrame qP]) = some (.next, S1 w os, cE, ⟨4, 0, 4, 8⟩) := by
  rw [Fast.te10110043849684766642, Fast.te14364793385576792824]
  unfold piecesOf
  rw [Fast.te12563942051412417395]
  kernel_rfl
theorem pc2 (w : World) (os : OsState) : segRunT treeTable pg w 11 (some (.ref 6)) 1 31 (S1 w os) (piecesOf ((bd.drop 2).take 1) env cE ⟨4, 0, 4, 8⟩ [topFrame qP]) = some (.next, S2 w os, cE, ⟨5, 0, 8, 28⟩) := by
  rw [Fast.te10110043849684766642, Fast.te14364793385576792824]
  unfold piecesOf
  rw [Fast.te12563942051412417395]
  kernel_rfl
theorem pc3 (w : World) (os : OsState) : segRunT treeTable pg w 11 (some (.ref 6)) 1 32 (S2 w os) (piecesOf ((bd.drop 3).take 1) env cE ⟨5, 0, 8, 28⟩ [topFrame qP]) = some (.next, S3 w os, cE, ⟨9, 0, 13, 29⟩) := by
  rw [Fast.te10110043849684766642, Fast.te14364793385576792824]
  unfold piecesOf
  rw [Fast.te12563942051412417395]
  kernel_rfl
theorem pc4 (w : World) (os : OsState) : segRunT treeTable pg w 11 (some (.ref 6)) 1 30 (S3 w os) (piecesOf ((bd.drop 4).take 1) env cE ⟨9, 0, 13, 29⟩ [topFrame qP]) = some (.next, S4 w os, cE, ⟨14, 0, 15, 23⟩) := by
  rw [Fast.te10110043849684766642, Fast.te14364793385576792824]
  unfold piecesOf
  rw [Fast.te12563942051412417395]
  kernel_rfl
theorem pc5 (w : World) (os : OsState) : segRunT treeTable pg w 11 (some (.ref 6)) 1 10 (S4 w os) (piecesOf ((bd.drop 5).take 1) env cE ⟨14, 0, 15, 23⟩ [topFrame qP]) = some (.next, S5 w os, cE, ⟨16, 0, 16, 8⟩) := by
  rw [Fast.te10110043849684766642, Fast.te14364793385576792824]
  unfold piecesOf
  rw [Fast.te12563942051412417395]
  kernel_rfl
theorem pc6 (w : World) (os : OsState) : segRunT treeTable pg w 11 (some (.ref 6)) 1 197 (S5 w os) (piecesOf ((bd.drop 6).take 1) env cE ⟨16, 0, 16, 8⟩ [topFrame qP]) = some (.next, S6 w os, cE, ⟨17, 0, 18, 8⟩) := by
  rw [Fast.te10110043849684766642, Fast.te14364793385576792824]
  unfold piecesOf
  rw [Fast.te12563942051412417395]
  kernel_rfl
theorem pc7 (w : World) (os : OsState) : segRunT treeTable pg w 11 (some (.ref 6)) 1 214 (S6 w os) (piecesOf ((bd.drop 7).take 1) env cE ⟨17, 0, 18, 8⟩ [topFrame qP]) = some (.next, S7 w os, cE, ⟨19, 0, 20, 8⟩) := by
  rw [Fast.te10110043849684766642, Fast.te14364793385576792824]
  unfold piecesOf
  rw [Fast.te12563942051412417395]
  kernel_rfl
theorem pc8 (w : World) (os : OsState) : segRunT treeTable pg w 11 (some (.ref 6)) 1 214 (S7 w os) (piecesOf ((bd.drop 8).take 1) env cE ⟨19, 0, 20, 8⟩ [topFrame qP]) = some (.next, S8 w os, cE, ⟨21, 0, 22, 8⟩) := by
  rw [Fast.te10110043849684766642, Fast.te14364793385576792824]
  unfold piecesOf
  rw [Fast.te12563942051412417395]
  kernel_rfl
theorem pc9 (w : World) (os : OsState) : segRunT treeTable pg w 11 (some (.ref 6)) 1 214 (S8 w os) (piecesOf ((bd.drop 9).take 1) env cE ⟨21, 0, 22, 8⟩ [topFrame qP]) = some (.next, S9 w os, cE, ⟨23, 0, 24, 8⟩) := by
  rw [Fast.te10110043849684766642, Fast.te14364793385576792824]
  unfold piecesOf
  rw [Fast.te12563942051412417395]
  kernel_rfl
theorem pc10 (w : World) (os : OsState) : segRunT treeTable pg w 11 (some (.ref 6)) 1 225 (S9 w os) (piecesOf ((bd.drop 10).take 1) env cE ⟨23, 0, 24, 8⟩ [topFrame qP]) = some (.next, S10 w os, cE, ⟨25, 0, 26, 8⟩) := by
  rw [Fast.te10110043849684766642, Fast.te14364793385576792824]
  unfold piecesOf
  rw [Fast.te12563942051412417395]
  kernel_rfl
theorem pc11 (w : World) (os : OsState) : segRunT treeTable pg w 11 (some (.ref 6)) 1 214 (S10 w os) (piecesOf ((bd.drop 11).take 1) env cE ⟨25, 0, 26, 8⟩ [topFrame qP]) = some (.next, S11 w os, cE, ⟨27, 0, 28, 8⟩) := by
  rw [Fast.te10110043849684766642, Fast.te14364793385576792824]
  unfold piecesOf
  rw [Fast.te12563942051412417395]
  kernel_rfl
theorem pc12 (w : World) (os : OsState) : segRunT treeTable pg w 11 (some (.ref 6)) 1 214 (S11 w os) (piecesOf ((bd.drop 12).take 1) env cE ⟨27, 0, 28, 8⟩ [topFrame qP]) = some (.next, S12 w os, cE, ⟨29, 0, 30, 8⟩) := by
  rw [Fast.te10110043849684766642, Fast.te14364793385576792824]
  unfold piecesOf
  rw [Fast.te12563942051412417395]
  kernel_rfl
theorem pc13 (w : World) (os : OsState) : segRunT treeTable pg w 11 (some (.ref 6)) 1 214 (S12 w os) (piecesOf ((bd.drop 13).take 1) env cE ⟨29, 0, 30, 8⟩ [topFrame qP]) = some (.next, S13 w os, cE, ⟨31, 0, 32, 8⟩) := by
  rw [Fast.te10110043849684766642, Fast.te14364793385576792824]
  unfold piecesOf
  rw [Fast.te12563942051412417395]
  kernel_rfl
theorem pc14 (w : World) (os : OsState) : segRunT treeTable pg w 11 (some (.ref 6)) 1 801 (S13 w os) (piecesOf ((bd.drop 14).take 1) env cE ⟨31, 0, 32, 8⟩ [topFrame qP]) = some (.next, S14 w os, cE, ⟨33, 0, 127, 48⟩) := by
  rw [Fast.te10110043849684766642, Fast.te14364793385576792824]
  unfold piecesOf
  rw [Fast.te12563942051412417395]
  kernel_rfl
theorem pc15 (w : World) (os : OsState) : segRunT treeTable pg w 11 (some (.ref 6)) 1 558 (S14 w os) (piecesOf ((bd.drop 15).take 1) env cE ⟨33, 0, 127, 48⟩ [topFrame qP]) = some (.next, S15 w os, cE, ⟨128, 0, 197, 30⟩) := by
  rw [Fast.te10110043849684766642, Fast.te14364793385576792824]
  unfold piecesOf
  rw [Fast.te12563942051412417395]
  kernel_rfl
theorem pc16 (w : World) (os : OsState) : segRunT treeTable pg w 11 (some (.ref 6)) 1 10 (S15 w os) (piecesOf ((bd.drop 16).take 1) env cE ⟨128, 0, 197, 30⟩ [topFrame qP]) = some (.next, S16 w os, cE, ⟨198, 0, 198, 8⟩) := by
  rw [Fast.te10110043849684766642, Fast.te14364793385576792824]
  unfold piecesOf
  rw [Fast.te12563942051412417395]
  kernel_rfl
theorem pc17 (w : World) (os : OsState) : segRunT treeTable pg w 11 (some (.ref 6)) 1 33 (S16 w os) (piecesOf ((bd.drop 17).take 1) env cE ⟨198, 0, 198, 8⟩ [topFrame qP]) = some (.next, S17 w os, cE, ⟨199, 0, 206, 15⟩) := by
  rw [Fast.te10110043849684766642, Fast.te14364793385576792824]
  unfold piecesOf
  rw [Fast.te12563942051412417395]
  kernel_rfl
theorem pc18 (w : World) (os : OsState) : segRunT treeTable pg w 11 (some (.ref 6)) 1 27 (S17 w os) (piecesOf ((bd.drop 18).take 1) env cE ⟨199, 0, 206, 15⟩ [topFrame qP]) = some (.next, S18 w os, cE, ⟨207, 0, 230, 15⟩) := by
  rw [Fast.te10110043849684766642, Fast.te14364793385576792824]
  unfold piecesOf
  rw [Fast.te12563942051412417395]
  kernel_rfl
theorem pc19 (w : World) (os : OsState) : segRunT treeTable pg w 11 (some (.ref 6)) 1 27 (S18 w os) (piecesOf ((bd.drop 19).take 1) env cE ⟨207, 0, 230, 15⟩ [topFrame qP]) = some (.next, S19 w os, cE, ⟨231, 0, 280, 15⟩) := by
  rw [Fast.te10110043849684766642, Fast.te14364793385576792824]
  unfold piecesOf
  rw [Fast.te12563942051412417395]
  kernel_rfl
end
end Hd
set_option maxHeartbeats 0
namespace Hd
noncomputable section
noncomputable def H1 (P : Params) : Heap := absHeap (tr19 P) 369 lifeH
theorem opn (w : World) : (fencedOpening treeTable pg w 10000).map (fun s => (s.heap, s.gens, s.drawn, s.toks)) = some (boot_heap w.params, Array.mk [], boot_drawn, boot_toks) :=
  boot_open (by rfl) (by rfl) (fun _ => by kernel_rfl) w
theorem siz (w : World) : ((boot_heap w.params).isNs mainGlobals && (Array.mk ([] : List GenState)).size == 0, (boot_heap w.params).objs.size, (boot_heap w.params).nsMap mainGlobals "__annotations__") = (true, 11, some (.ref 6)) := by
  kernel_rfl
theorem pre (w : World) (os : OsState) : topGo treeTable pg w 11 (some (.ref 6)) 12 ⟨boot_heap w.params, Array.mk [], boot_drawn, boot_toks, os⟩ (topStub pg) = some ((SP w os).abs, ⟨denote treeTable cE, cE, ⟨0,0,0,0⟩, [topFrame qP]⟩) := by
  rw [Fast.te15667345088766844465, Fast.te14364793385576792824, Fast.te11892475500146522536]
  kernel_rfl
theorem blk (w : World) (os : OsState) : segRun treeTable pg w 11 (some (.ref 6)) 1 1 (SP w os).abs (blockOf bd env cE ⟨0,0,0,0⟩ [topFrame qP]) = some (.next, (SB w os).abs, cE, ⟨0,0,0,0⟩) := by
  rw [Fast.te14374325043358763698, Fast.te14364793385576792824]
  unfold blockOf
  rw [Fast.te1066825118222455980]
  kernel_rfl
theorem fin (w : World) (os : OsState) : topRun treeTable pg w 11 (some (.ref 6)) 2 (S19 w os).abs ⟨doneF .next, cE, ⟨231, 0, 280, 15⟩, [topFrame qP]⟩ = some (S19 w os).abs := by
  rw [Fast.te14082659384304107361, Fast.te14364793385576792824]
  kernel_rfl
end
end Hd
set_option maxHeartbeats 0
namespace Hd
noncomputable section
theorem drop_cut {α : Type} (l : List α) (k : Nat) : l.drop k = (l.drop k).take 1 ++ l.drop (k + 1) := by
  have h := (List.take_append_drop 1 (l.drop k)).symm
  rwa [List.drop_drop] at h
theorem pc_app {w : World} {k n N : Nat} {s s' r : Shared} {pos p' : Pos} (h : segRun treeTable pg w 11 (some (.ref 6)) 1 n s (piecesOf ((bd.drop k).take 1) env cE pos [topFrame qP]) = some (.next, s', cE, p'))
    (x : topRun treeTable pg w 11 (some (.ref 6)) N s' (restOf (bd.drop (k + 1)) env cE p' [topFrame qP]) = some r) : topRun treeTable pg w 11 (some (.ref 6)) (n + N) s (restOf (bd.drop k) env cE pos [topFrame qP]) = some r := by
  rw [drop_cut bd k]
  exact piece_app h x
theorem bd_end : bd.drop 20 = [] := by kernel_rfl
noncomputable def total : Nat := 12 + (1 + (30 + (10 + (31 + (32 + (30 + (10 + (197 + (214 + (214 + (214 + (225 + (214 + (214 + (214 + (801 + (558 + (10 + (33 + (27 + (27 + (2))))))))))))))))))))))
theorem run (w : World) (os : OsState) : topRun treeTable pg w 11 (some (.ref 6)) total ⟨boot_heap w.params, Array.mk [], boot_drawn, boot_toks, os⟩ (topStub pg) = some (S19 w os).abs := by
  refine go_top (pre w os) (piece_block (blk w os) ?_)
  show topRun _ _ _ _ _ _ _ (restOf (bd.drop 0) env cE _ _) = _
  refine pc_app (segRun_of (pc0 w os)) <| pc_app (segRun_of (pc1 w os)) <| pc_app (segRun_of (pc2 w os)) <| pc_app (segRun_of (pc3 w os)) <| pc_app (segRun_of (pc4 w os)) <| pc_app (segRun_of (pc5 w os)) <| pc_app (segRun_of (pc6 w os)) <| pc_app (segRun_of (pc7 w os)) <| pc_app (segRun_of (pc8 w os)) <| pc_app (segRun_of (pc9 w os)) <| pc_app (segRun_of (pc10 w os)) <| pc_app (segRun_of (pc11 w os)) <| pc_app (segRun_of (pc12 w os)) <| pc_app (segRun_of (pc13 w os)) <| pc_app (segRun_of (pc14 w os)) <| pc_app (segRun_of (pc15 w os)) <| pc_app (segRun_of (pc16 w os)) <| pc_app (segRun_of (pc17 w os)) <| pc_app (segRun_of (pc18 w os)) <| pc_app (segRun_of (pc19 w os)) ?_
  rw [bd_end]
  exact piece_nil (fin w os)
end
end Hd
set_option maxHeartbeats 0
namespace Hd
noncomputable section
noncomputable def K (P : Params) : Frag := [(2, o2_103 P), (3, o3_397 P), (15, o15_6 P), (17, o17_8 P), (18, o18_9 P), (20, o20_11 P), (21, o21_12 P), (22, o22_16 P), (24, o24_18 P), (25, o25_19 P), (27, o27_21 P), (28, o28_22 P), (29, o29_25 P), (31, o31_27 P), (32, o32_28 P), (34, o34_30 P), (35, o35_31 P), (36, o36_34 P), (38, o38_36 P), (39, o39_37 P), (41, o41_39 P), (42, o42_40 P), (43, o43_45 P), (50, o50_52 P), (51, o51_53 P), (52, o52_152 P), (53, o53_55 P), (56, o56_61 P), (63, o63_68 P), (64, o64_69 P), (65, o65_70 P), (68, o68_76 P), (75, o75_83 P), (76, o76_84 P), (77, o77_85 P), (80, o80_91 P), (87, o87_98 P), (88, o88_99 P), (89, o89_100 P), (92, o92_107 P), (99, o99_114 P), (100, o100_115 P), (101, o101_116 P), (102, o102_117 P), (105, o105_123 P), (112, o112_130 P), (113, o113_131 P), (114, o114_132 P), (117, o117_138 P), (124, o124_145 P), (125, o125_146 P), (126, o126_147 P), (129, o129_153 P), (136, o136_160 P), (137, o137_161 P), (138, o138_162 P), (148, o148_174 P), (149, o149_175 P), (151, o151_177 P), (152, o152_178 P), (154, o154_180 P), (155, o155_181 P), (156, o156_182 P), (158, o158_184 P), (159, o159_185 P), (161, o161_187 P), (162, o162_188 P), (165, o165_191 P), (167, o167_193 P), (168, o168_194 P), (170, o170_196 P), (171, o171_197 P), (172, o172_198 P), (173, o173_199 P), (175, o175_201 P), (176, o176_202 P), (178, o178_204 P), (179, o179_205 P), (180, o180_206 P), (182, o182_208 P), (183, o183_209 P), (185, o185_211 P), (186, o186_212 P), (187, o187_213 P), (188, o188_214 P), (190, o190_216 P), (191, o191_217 P), (193, o193_219 P), (194, o194_220 P), (195, o195_221 P), (197, o197_223 P), (198, o198_224 P), (200, o200_226 P), (201, o201_227 P), (202, o202_228 P), (204, o204_230 P), (205, o205_231 P), (207, o207_233 P), (208, o208_234 P), (209, o209_235 P), (211, o211_237 P), (212, o212_238 P), (214, o214_240 P), (215, o215_241 P), (216, o216_242 P), (218, o218_244 P), (219, o219_245 P), (221, o221_247 P), (222, o222_248 P), (223, o223_249 P), (225, o225_251 P), (226, o226_252 P), (228, o228_254 P), (229, o229_255 P), (230, o230_256 P), (232, o232_258 P), (233, o233_259 P), (235, o235_261 P), (236, o236_262 P), (237, o237_263 P), (239, o239_265 P), (240, o240_266 P), (242, o242_268 P), (243, o243_269 P), (244, o244_270 P), (246, o246_272 P), (247, o247_273 P), (249, o249_275 P), (250, o250_276 P), (251, o251_277 P), (252, o252_278 P), (253, o253_279 P), (254, o254_280 P), (255, o255_281 P), (265, o265_293 P), (266, o266_294 P), (268, o268_296 P), (269, o269_297 P), (271, o271_299 P), (272, o272_300 P), (273, o273_301 P), (275, o275_303 P), (276, o276_304 P), (278, o278_306 P), (279, o279_307 P), (280, o280_308 P), (282, o282_310 P), (283, o283_311 P), (285, o285_313 P), (286, o286_314 P), (287, o287_315 P), (288, o288_316 P), (290, o290_318 P), (291, o291_319 P), (293, o293_321 P), (294, o294_322 P), (295, o295_323 P), (296, o296_324 P), (298, o298_326 P), (299, o299_327 P), (301, o301_329 P), (302, o302_330 P), (303, o303_331 P), (305, o305_333 P), (306, o306_334 P), (308, o308_336 P), (309, o309_337 P), (310, o310_338 P), (312, o312_340 P), (313, o313_341 P), (315, o315_343 P), (316, o316_344 P), (317, o317_345 P), (319, o319_347 P), (320, o320_348 P), (322, o322_350 P), (323, o323_351 P), (324, o324_352 P), (326, o326_354 P), (327, o327_355 P), (329, o329_357 P), (330, o330_358 P), (331, o331_359 P), (333, o333_361 P), (334, o334_362 P), (336, o336_364 P), (337, o337_365 P), (338, o338_366 P), (340, o340_368 P), (341, o341_369 P), (343, o343_371 P), (344, o344_372 P), (345, o345_373 P), (346, o346_374 P), (347, o347_375 P), (348, o348_376 P), (349, o349_377 P), (352, o352_383 P), (354, o354_385 P), (355, o355_386 P), (357, o357_388 P), (358, o358_389 P), (359, o359_392 P), (362, o362_395 P), (363, o363_396 P), (364, o364_399 P), (367, o367_402 P), (368, o368_403 P)]
noncomputable def Kas : List Addr := [2, 3, 15, 17, 18, 20, 21, 22, 24, 25, 27, 28, 29, 31, 32, 34, 35, 36, 38, 39, 41, 42, 43, 50, 51, 52, 53, 56, 63, 64, 65, 68, 75, 76, 77, 80, 87, 88, 89, 92, 99, 100, 101, 102, 105, 112, 113, 114, 117, 124, 125, 126, 129, 136, 137, 138, 148, 149, 151, 152, 154, 155, 156, 158, 159, 161, 162, 165, 167, 168, 170, 171, 172, 173, 175, 176, 178, 179, 180, 182, 183, 185, 186, 187, 188, 190, 191, 193, 194, 195, 197, 198, 200, 201, 202, 204, 205, 207, 208, 209, 211, 212, 214, 215, 216, 218, 219, 221, 222, 223, 225, 226, 228, 229, 230, 232, 233, 235, 236, 237, 239, 240, 242, 243, 244, 246, 247, 249, 250, 251, 252, 253, 254, 255, 265, 266, 268, 269, 271, 272, 273, 275, 276, 278, 279, 280, 282, 283, 285, 286, 287, 288, 290, 291, 293, 294, 295, 296, 298, 299, 301, 302, 303, 305, 306, 308, 309, 310, 312, 313, 315, 316, 317, 319, 320, 322, 323, 324, 326, 327, 329, 330, 331, 333, 334, 336, 337, 338, 340, 341, 343, 344, 345, 346, 347, 348, 349, 352, 354, 355, 357, 358, 359, 362, 363, 364, 367, 368]
theorem Kas_eq : ∀ P, Kas = (K P).map (·.1) := fun P => by kernel_rfl
noncomputable def q : Program := view pg [19]
noncomputable def loose : List Str := (pg.boundNames).filter (fun n => n != ("law" : Str))
theorem looks (w : World) : (fun os => ((staticsOk (importedModules pg.main.body) (boot_heap w.params) (H1 w.params) && namesBound pg (H1 w.params) && gensDone ⟨H1 w.params, Array.mk [], ⟨0,0,0,0⟩, (S19 w os).toks, os⟩ && laidKept (boot_heap w.params) (H1 w.params)),
        openSeen q loose (importedModules pg.main.body) (fun s => xlAt q [] s && recOk (RowW.records PySem.Challenge.rw_jl0001_09.row.toRowW) s) true ⟨H1 w.params, Array.mk [], ⟨0,0,0,0⟩, (S19 w os).toks, os⟩, (kHook K Kas Kas_eq).obs ⟨H1 w.params, Array.mk [], ⟨0,0,0,0⟩, (S19 w os).toks, os⟩)) = fun (_ : OsState) => (true, openGood q loose, (kHook K Kas Kas_eq).val w) := by
  rw [Fast.te4187177175401517315, Fast.te5923862056798008813]
  kernel_rfl
end
end Hd
set_option maxHeartbeats 0
namespace Hd
noncomputable section
abbrev rwl : OpenLaw := PySem.Challenge.rw_jl0001_09
theorem left : LeftO pg q loose (fun s => xlAt q [] s && recOk (RowW.records rwl.row.toRowW) s) (kHook K Kas Kas_eq).obs (kHook K Kas Kas_eq).val 10000 :=
  LeftO.of_pieces (H₀ := boot_heap) (H₁ := H1) (gs₀ := Array.mk []) (gs₁ := Array.mk []) (d₀ := boot_drawn) (d₁ := ⟨0,0,0,0⟩) (k₀ := boot_toks) (k₁ := 655) (m₀ := 11) (ann := some (.ref 6)) (M := total)
    opn siz run (by decide +kernel) looks
noncomputable def lawPos : Stmt → Pos
  | .FunctionDef _ _ _ _ _ _ _ _ _ p => p
  | _ => ⟨0,0,0,0⟩
noncomputable def lawRec : DefRec := { name := Str.ofString "law", params := fnParams (stTop 19), body := fnBody (stTop 19), scope := fnScope (stTop 19), pos := lawPos (stTop 19) }
theorem head (hw : rwl.row.toRowW.promised) (hc : WalkO q loose (XL q []) (kHook K Kas Kas_eq).says rwl.row.toRowW lawRec [] fun f vs => PySem.call f vs) : rwl.Holds := by
  refine holds_law (by kernel_rfl) fun hsaid => ?_
  refine holds_open (q := q) (loose := loose) (Xt := fun s => xlAt q [] s && recOk (RowW.records rwl.row.toRowW) s) (XP := XL q []) (Yf := (kHook K Kas Kas_eq).obs) (Ya := (kHook K Kas Kas_eq).val) (YP := (kHook K Kas Kas_eq).says) (N := 10000) (d := lawRec) (kwd := []) left (Hook.of (kHook K Kas Kas_eq)) (Hook.keeps (kHook K Kas Kas_eq))
    (fun s e => xl_of s (Bool.and_eq_true_iff.mp e).1) XL.keeps ?_ ?_ ?_ (fun s e => recFacts_of (Bool.and_eq_true_iff.mp e).2) ?_ (by assumption) ?_ ?_ hw hc
  · kernel_rfl
  · kernel_rfl
  · kernel_rfl
  · kernel_rfl
  · decide +kernel
  · exact ⟨rfl, rfl, rfl, rfl, rfl, by decide +kernel⟩
end
end Hd
namespace Mine
abbrev TS := Lean.TSyntax `Lean.Parser.Tactic.tacticSeq
abbrev TT := Lean.TSyntax `tactic
def altC (a : Lean.Name) (s : TT) : Lean.MacroM TT := `(tactic| (case $(Lean.mkIdent a):ident => $s:tactic))
def altR (p : Lean.Name) (l : List Lean.Name) (back : Bool) (cs : Array TT) : Lean.MacroM TS := do
  let n := Lean.mkIdent (`Mine ++ p)
  let hs : Array Lean.Term ← l.toArray.mapM fun a => `(?$(Lean.mkIdent a))
  let m ← `(?_)
  let hs := if back then #[m] ++ hs else hs.push m
  let t ← `(tactic| (with_reducible refine' ($n $hs*)))
  let all := #[t] ++ cs
  `(Lean.Parser.Tactic.tacticSeq| $[$all]*)
def alt (p : Lean.Name × Nat) : Lean.MacroM TS := do
  let k ← `(tactic| kernel_rfl)
  let r ← `(tactic| (intros; rfl))
  let u ← `(tactic| with_unfolding_all rfl)
  let a ← `(tactic| assumption)
  let d ← `(tactic| decide)
  let mm ← `(tactic| walk_at "mem")
  let uu ← `(tactic| walk_at "upd")
  let c ← `(tactic| exact $(Lean.mkIdent `Mine.clsS) (by assumption))
  let kk ← `(tactic| exact $(Lean.mkIdent `Mine.keepO) (by assumption) (fun P => by kernel_rfl))
  let (back, l) : Bool × List TT := match p.2 with
    | 0 => (false, [])
    | 1 => (false, [k])
    | 2 => (false, [k, k])
    | 3 => (true, [k])
    | 4 => (false, [mm])
    | 5 => (true, [r])
    | 6 => (false, [u])
    | 7 => (true, [u])
    | 8 => (false, [k, k, r])
    | 9 => (false, [r])
    | 10 => (false, [kk])
    | 11 => (false, [uu, k])
    | 12 => (false, [a, k])
    | 13 => (false, [c, a])
    | 14 => (false, [c, a, a])
    | _ => (false, [d, d, r])
  let ns := [`ha, `hb, `hc].take l.length
  altR p.1 ns back (← (ns.zip l).toArray.mapM fun x => altC x.1 x.2)
def altN : List String → Nat → List (Lean.Name × Nat)
  | [], _ => []
  | s :: r, k => match s.toNat? with
    | some j => altN r j
    | none => (s.toName, k) :: altN r k
def alts (s : String) : Lean.MacroM TT := do
  let a ← (altN (s.splitOn " ") 0).toArray.mapM alt
  `(tactic| first $[| $a]*)
end Mine
namespace Mine
/-! values of the small semantics: ints and strs without their tokens, tuples as values -/
inductive MV where
  | none
  | bool (b : Bool)
  | int (i : Int)
  | str (s : Str)
  | tup (l : List MV)
  | ref (a : Addr)
  | raw (v : Value)
mutual
noncomputable def VR (h : Heap) : MV → Value → Prop
  | .none, v => v = .none
  | .bool b, v => v = .bool b
  | .int i, v => ∃ t, v = .int i t
  | .str s, v => ∃ t, v = .str s t
  | .tup l, v => ∃ a vs, v = .ref a ∧ IsTup h a vs ∧ VRs h l vs.toList
  | .ref a, v => v = .ref a
  | .raw r, v => v = r
noncomputable def VRs (h : Heap) : List MV → List Value → Prop
  | [], vs => vs = []
  | m :: l, vs => ∃ v r, vs = v :: r ∧ VR h m v ∧ VRs h l r
end
noncomputable def KVs {α : Type} (h : Heap) : List (α × MV) → List (α × Value) → Prop
  | [], l => l = []
  | (k, m) :: r, l => ∃ v l', l = (k, v) :: l' ∧ VR h m v ∧ KVs h r l'
theorem VRs.length {h : Heap} : ∀ {l : List MV} {vs : List Value}, VRs h l vs → vs.length = l.length
  | [], vs, e => by unfold VRs at e; subst e; rfl
  | m :: l, vs, e => by
    unfold VRs at e
    obtain ⟨v, r, rfl, _, hr⟩ := e
    simp [VRs.length hr]
theorem VRs.get {h : Heap} : ∀ {l : List MV} {vs : List Value}, VRs h l vs → ∀ {i : Nat} {m : MV}, l[i]? = some m → ∃ v, vs[i]? = some v ∧ VR h m v
  | [], vs, e, i, m, hi => by simp at hi
  | x :: l, vs, e, i, m, hi => by
    unfold VRs at e
    obtain ⟨v, r, rfl, hv, hr⟩ := e
    cases i with
    | zero => simp at hi; subst hi; exact ⟨v, rfl, hv⟩
    | succ i => simp at hi; simpa using VRs.get hr hi
theorem VRs.append {h : Heap} : ∀ {l : List MV} {vs : List Value} {l' : List MV} {vs' : List Value}, VRs h l vs → VRs h l' vs' → VRs h (l ++ l') (vs ++ vs')
  | [], vs, l', vs', e, e' => by unfold VRs at e; subst e; exact e'
  | m :: l, vs, l', vs', e, e' => by
    unfold VRs at e
    obtain ⟨v, r, rfl, hv, hr⟩ := e
    show VRs h (m :: (l ++ l')) (v :: (r ++ vs'))
    unfold VRs
    exact ⟨v, r ++ vs', rfl, hv, VRs.append hr e'⟩
theorem VRs.nil {h : Heap} : VRs h [] [] := by unfold VRs; rfl
theorem VRs.cons {h : Heap} {m : MV} {v : Value} {l : List MV} {vs : List Value} (a : VR h m v) (b : VRs h l vs) : VRs h (m :: l) (v :: vs) := by unfold VRs; exact ⟨v, vs, rfl, a, b⟩
theorem VRs.take {h : Heap} : ∀ {l : List MV} {vs : List Value}, VRs h l vs → ∀ n, VRs h (l.take n) (vs.take n)
  | [], vs, e, n => by unfold VRs at e; subst e; simp; exact VRs.nil
  | m :: l, vs, e, n => by
    unfold VRs at e
    obtain ⟨v, r, rfl, hv, hr⟩ := e
    cases n with
    | zero => simp; exact VRs.nil
    | succ n => simp; exact VRs.cons hv (VRs.take hr n)
theorem VRs.drop {h : Heap} : ∀ {l : List MV} {vs : List Value}, VRs h l vs → ∀ n, VRs h (l.drop n) (vs.drop n)
  | [], vs, e, n => by unfold VRs at e; subst e; simp; exact VRs.nil
  | m :: l, vs, e, n => by
    cases n with
    | zero => simpa using e
    | succ n =>
      unfold VRs at e
      obtain ⟨v, r, rfl, hv, hr⟩ := e
      simpa using VRs.drop hr n
theorem VRs.set {h : Heap} : ∀ {l : List MV} {vs : List Value}, VRs h l vs → ∀ {n : Nat} {m : MV} {v : Value}, VR h m v → VRs h (l.set n m) (vs.set n v)
  | [], vs, e, n, m, v, hv => by unfold VRs at e; subst e; simp; exact VRs.nil
  | x :: l, vs, e, n, m, v, hv => by
    unfold VRs at e
    obtain ⟨y, r, rfl, hy, hr⟩ := e
    cases n with
    | zero => simp; exact VRs.cons hv hr
    | succ n => simp; exact VRs.cons hy (VRs.set hr hv)
structure MHeap where
  I : Addr → Option (Addr × Addr)
  L : Addr → Option (List MV)
  D : Addr → Option (List (Int × MV))
  S : Addr → Option (List (Str × MV))
  E : Addr → Option Nat
namespace MHeap
noncomputable def Dom (σ : MHeap) (a : Addr) : Prop := σ.I a ≠ none ∨ σ.L a ≠ none ∨ σ.D a ≠ none ∨ σ.S a ≠ none
noncomputable def empty : MHeap := ⟨fun _ => none, fun _ => none, fun _ => none, fun _ => none, fun _ => none⟩
noncomputable def clr (f : Addr → Option Nat) (a : Addr) : Addr → Option Nat := fun b => if b = a then none else f b
noncomputable def up {α : Type} (f : Addr → Option α) (a : Addr) (x : α) : Addr → Option α := fun b => if b = a then some x else f b
noncomputable def setI (σ : MHeap) (a : Addr) (x : Addr × Addr) : MHeap := { σ with I := up σ.I a x, E := clr σ.E a }
noncomputable def setL (σ : MHeap) (a : Addr) (x : List MV) : MHeap := { σ with L := up σ.L a x, E := clr σ.E a }
noncomputable def setD (σ : MHeap) (a : Addr) (x : List (Int × MV)) : MHeap := { σ with D := up σ.D a x, E := clr σ.E a }
noncomputable def setS (σ : MHeap) (a : Addr) (x : List (Str × MV)) : MHeap := { σ with S := up σ.S a x, E := clr σ.E a }
end MHeap
structure Cx where
  prog : Program
  w : World
  g : Heap
  os : OsState
  K : Frag
  mg : Str → Option Value
  mb : Str → Option Value
  hK : K.In g
  hmg : g.Ns mainGlobals mg
  hmb : g.Ns builtinsNs mb
  hb : ∀ x : Str, x ≠ "__name__" → mb x = bootBuiltins x
  hlim : g.NoLimit
  hseer : g.NoSeer
  htree : prog.given.tree = none
noncomputable abbrev Cx.M (C : Cx) : Model := model C.prog C.w
structure Objs (C : Cx) (σ : MHeap) (h : Heap) : Prop where
  I : ∀ a c d, σ.I a = some (c, d) → h.get? a = some (instObj c d)
  L : ∀ a l, σ.L a = some l → ∃ vs n, h.get? a = some (listOf vs n) ∧ VRs h l vs.toList
  D : ∀ a l, σ.D a = some l → ∃ kvs, h.DictOf (intKind C.prog C.w) a kvs ∧ KVs h l kvs
  S : ∀ a l, σ.S a = some l → ∃ kvs, h.DictOf (strKind C.prog C.w) a kvs ∧ KVs h l kvs
  X : ∀ a, σ.D a = none ∨ σ.S a = none
  E : ∀ a ep, σ.E a = some ep → σ.Dom a ∧ ∃ o es, h.get? a = some o ∧ o.data = .dict es ep
noncomputable def Fixed (o : Obj) : Prop := (o.cls = .type "tuple" ∧ ∃ vs n, o.data = .seq vs n) ∨ ∃ vs, o.data = .fields vs
theorem Objs.notFixed {C : Cx} {σ : MHeap} {h : Heap} (O : Objs C σ h) {a : Addr} (d : σ.Dom a) : ∃ o, h.get? a = some o ∧ ¬ Fixed o := by
  rcases d with d | d | d | d
  · obtain ⟨⟨c, x⟩, e⟩ := Option.ne_none_iff_exists'.mp d
    refine ⟨_, O.I a c x e, ?_⟩
    rintro (⟨_, vs, n, q⟩ | ⟨vs, q⟩) <;> cases q
  · obtain ⟨l, e⟩ := Option.ne_none_iff_exists'.mp d
    obtain ⟨vs, n, e', _⟩ := O.L a l e
    refine ⟨_, e', ?_⟩
    rintro (⟨q, _⟩ | ⟨vs, q⟩) <;> simp at q
  · obtain ⟨l, e⟩ := Option.ne_none_iff_exists'.mp d
    obtain ⟨kvs, ⟨o, es, ep, ho, hc, hd, _⟩, _⟩ := O.D a l e
    refine ⟨o, ho, ?_⟩
    rintro (⟨q, _⟩ | ⟨vs, q⟩)
    · rw [hc.1] at q; simp at q
    · rw [hd] at q; cases q
  · obtain ⟨l, e⟩ := Option.ne_none_iff_exists'.mp d
    obtain ⟨kvs, ⟨o, es, ep, ho, hc, hd, _⟩, _⟩ := O.S a l e
    refine ⟨o, ho, ?_⟩
    rintro (⟨q, _⟩ | ⟨vs, q⟩)
    · rw [hc.1] at q; simp at q
    · rw [hd] at q; cases q
theorem Objs.there {C : Cx} {σ : MHeap} {h : Heap} (O : Objs C σ h) {a : Addr} (d : σ.Dom a) : ∃ o, h.get? a = some o := let ⟨o, e, _⟩ := O.notFixed d; ⟨o, e⟩
noncomputable def FixT (o : Obj) : Prop := o.cls = .type "tuple" ∧ ∃ vs n, o.data = .seq vs n
mutual
theorem VR.moveT {h h' : Heap} (k : ∀ b o, h.get? b = some o → FixT o → h'.get? b = some o) : ∀ {m : MV} {v : Value}, VR h m v → VR h' m v
  | .none, v, e => by unfold VR at e ⊢; exact e
  | .bool b, v, e => by unfold VR at e ⊢; exact e
  | .int i, v, e => by unfold VR at e ⊢; exact e
  | .str s, v, e => by unfold VR at e ⊢; exact e
  | .ref a, v, e => by unfold VR at e ⊢; exact e
  | .raw r, v, e => by unfold VR at e ⊢; exact e
  | .tup l, v, e => by
    unfold VR at e ⊢
    obtain ⟨a, vs, rfl, ⟨o, ho, hc, n, hd⟩, hv⟩ := e
    exact ⟨a, vs, rfl, ⟨o, k a o ho ⟨hc, vs, n, hd⟩, hc, n, hd⟩, VRs.moveT k hv⟩
theorem VRs.moveT {h h' : Heap} (k : ∀ b o, h.get? b = some o → FixT o → h'.get? b = some o) : ∀ {l : List MV} {vs : List Value}, VRs h l vs → VRs h' l vs
  | [], vs, e => by unfold VRs at e ⊢; exact e
  | m :: l, vs, e => by
    unfold VRs at e ⊢
    obtain ⟨v, r, rfl, hv, hr⟩ := e
    exact ⟨v, r, rfl, VR.moveT k hv, VRs.moveT k hr⟩
end
theorem KVs.moveT {α : Type} {h h' : Heap} (k : ∀ b o, h.get? b = some o → FixT o → h'.get? b = some o) : ∀ {l : List (α × MV)} {vs : List (α × Value)}, KVs h l vs → KVs h' l vs
  | [], vs, e => e
  | (x, m) :: l, vs, e => by
    obtain ⟨v, r, rfl, hv, hr⟩ := e
    exact ⟨v, r, rfl, hv.moveT k, KVs.moveT k hr⟩
theorem VR.move {h h' : Heap} (k : ∀ b o, h.get? b = some o → Fixed o → h'.get? b = some o) {m : MV} {v : Value} (e : VR h m v) : VR h' m v := e.moveT fun b o g f => k b o g (.inl f)
theorem VRs.move {h h' : Heap} (k : ∀ b o, h.get? b = some o → Fixed o → h'.get? b = some o) {m : List MV} {v : List Value} (e : VRs h m v) : VRs h' m v := e.moveT fun b o g f => k b o g (.inl f)
theorem KVs.move {α : Type} {h h' : Heap} (k : ∀ b o, h.get? b = some o → Fixed o → h'.get? b = some o) {l : List (α × MV)} {vs : List (α × Value)} (e : KVs h l vs) : KVs h' l vs := e.moveT fun b o g f => k b o g (.inl f)
inductive Chain (h : Heap) : Addr → List Addr → Prop
  | last {e : Addr} {o : Obj} {vs : Array Value} (ho : h.get? e = some o) (hd : o.data = .fields vs) (h2 : vs[2]? = some .none) : Chain h e [e]
  | next {e e' : Addr} {o : Obj} {vs : Array Value} {l : List Addr} (ho : h.get? e = some o) (hd : o.data = .fields vs) (h2 : vs[2]? = some (.ref e')) (r : Chain h e' l) (hn : e ∉ l) : Chain h e (e :: l)
theorem Chain.move {h h' : Heap} (k : ∀ b o, h.get? b = some o → Fixed o → h'.get? b = some o) {e : Addr} {l : List Addr} (c : Chain h e l) : Chain h' e l := by
  induction c with
  | last ho hd h2 => exact .last (k _ _ ho (.inr ⟨_, hd⟩)) hd h2
  | next ho hd h2 _ hn ih => exact .next (k _ _ ho (.inr ⟨_, hd⟩)) hd h2 ih hn
theorem Chain.there {h : Heap} {e : Addr} {l : List Addr} (c : Chain h e l) : ∀ b ∈ l, ∃ o, h.get? b = some o := by
  induction c with
  | last ho hd h2 => intro b hb; rw [List.mem_singleton.mp hb]; exact ⟨_, ho⟩
  | next ho hd h2 _ hn ih =>
    intro b hb
    rcases List.mem_cons.mp hb with rfl | hb
    · exact ⟨_, ho⟩
    · exact ih b hb
noncomputable def HOk (hd : Option Value) (h : Heap) : Prop := ∀ v, hd = some v → ∃ e l, v = .ref e ∧ Chain h e l
noncomputable abbrev frs (fs : List Env) : List Addr := fs.filterMap (·.frame)
structure Sm (C : Cx) (hd : Option Value) (fs : List Env) (σ : MHeap) (s : Shared) : Prop where
  base : ∀ b o, C.g.get? b = some o → s.heap.get? b = some o
  sep : ∀ b, σ.Dom b → C.g.get? b = none
  objs : Objs C σ s.heap
  funf : s.heap.FunFrames C.g fs
  frc : ∀ b ∈ frs fs, ¬ σ.Dom b ∧ ∃ o, s.heap.get? b = some o ∧ ¬ Fixed o
  gens : s.gens = #[]
  os : s.os = C.os
  hnd : HOk hd s.heap
structure Tr (fs : List Env) (own : List Addr) (σ : MHeap) (h : Heap) (σ' : MHeap) (h' : Heap) : Prop where
  keep : ∀ b o, h.get? b = some o → ¬ σ.Dom b → b ∉ own → b ∉ frs fs → h'.get? b = some o
  slots : ∀ b o, h.get? b = some o → ¬ σ.Dom b → b ∉ own → ∃ sl, h'.get? b = some { o with slots := sl }
  there : ∀ b o, h.get? b = some o → ∃ o', h'.get? b = some o'
  grow : ∀ b, σ'.Dom b → σ.Dom b ∨ h.get? b = none
theorem Tr.refl {fs : List Env} {own : List Addr} {σ : MHeap} {h : Heap} : Tr fs own σ h σ h := ⟨fun _ _ e _ _ _ => e, fun _ o e _ _ => ⟨o.slots, e⟩, fun _ o e => ⟨o, e⟩, fun _ d => .inl d⟩
theorem Tr.trans {fs : List Env} {own : List Addr} {σ σ' σ'' : MHeap} {h h' h'' : Heap} (x : Tr fs own σ h σ' h') (y : Tr fs own σ' h' σ'' h'') : Tr fs own σ h σ'' h'' := by
  have nd : ∀ b o, h.get? b = some o → ¬ σ.Dom b → ¬ σ'.Dom b := fun b o e n d => by
    rcases x.grow b d with d | d
    · exact n d
    · rw [d] at e; cases e
  refine ⟨fun b o e n m f => y.keep b o (x.keep b o e n m f) (nd b o e n) m f, fun b o e n m => ?_, fun b o e => ?_, fun b d => ?_⟩
  · obtain ⟨sl, e'⟩ := x.slots b o e n m
    obtain ⟨sl', e''⟩ := y.slots b _ e' (nd b o e n) m
    exact ⟨sl', e''⟩
  · obtain ⟨o', e'⟩ := x.there b o e
    exact y.there b o' e'
  · rcases y.grow b d with d | d
    · exact x.grow b d
    · cases e : h.get? b with
      | none => exact .inr rfl
      | some o => obtain ⟨o', e'⟩ := x.there b o e; rw [d] at e'; cases e'
theorem Tr.more {fs : List Env} {own own' : List Addr} {σ σ' : MHeap} {h h' : Heap} (x : Tr fs own σ h σ' h') (k : ∀ b ∈ own, b ∈ own') : Tr fs own' σ h σ' h' :=
  ⟨fun b o e n m f => x.keep b o e n (fun q => m (k b q)) f, fun b o e n m => x.slots b o e n (fun q => m (k b q)), x.there, x.grow⟩
theorem Sm.apart {C : Cx} {hd : Option Value} {fs : List Env} {σ : MHeap} {s : Shared} (S : Sm C hd fs σ s) {b : Addr} {o : Obj} (e : s.heap.get? b = some o) (f : Fixed o) : ¬ σ.Dom b ∧ b ∉ frs fs := by
  refine ⟨fun d => ?_, fun m => ?_⟩
  · obtain ⟨o', e', n⟩ := S.objs.notFixed d
    rw [e] at e'; cases e'; exact n f
  · obtain ⟨_, o', e', n⟩ := S.frc b m
    rw [e] at e'; cases e'; exact n f
noncomputable def OwnOk (own : List Addr) (h : Heap) : Prop := ∀ b ∈ own, ∃ o, h.get? b = some o ∧ ¬ Fixed o
theorem OwnOk.nil {h : Heap} : OwnOk [] h := fun _ q => by cases q
theorem Tr.fixed {C : Cx} {hd : Option Value} {fs : List Env} {own : List Addr} {σ σ' : MHeap} {s : Shared} {h' : Heap} (S : Sm C hd fs σ s) (w : OwnOk own s.heap) (x : Tr fs own σ s.heap σ' h') :
    ∀ b o, s.heap.get? b = some o → Fixed o → h'.get? b = some o := fun b o e f => by
  obtain ⟨n, m⟩ := S.apart e f
  exact x.keep b o e n (fun q => by obtain ⟨o', e', n'⟩ := w b q; rw [e] at e'; cases e'; exact n' f) m
noncomputable def okName (x : Str) : Bool := !(x == ("__debug__" : Str)) && !(x == ("__classdict__" : Str))
structure FrameR (env : Env) (m : List (Str × MV)) (h : Heap) : Prop where
  ns : ∃ f, h.Ns env.locals f ∧ ∀ x v, (x, v) ∈ m → env.kindOf x = some .local → ∃ v', f x = some v' ∧ VR h v v'
  cells : ∀ x v, (x, v) ∈ m → env.kindOf x = some .cell ∨ env.kindOf x = some .free → ∃ c v', env.cells.lookup x = some c ∧ h.IsCell c (some v') ∧ VR h v v'
  laid : ∀ x, env.kindOf x = some .cell → ∃ c v₀, env.cells.lookup x = some c ∧ h.IsCell c v₀
  only : ∀ x v, (x, v) ∈ m → okName x = true ∧ (env.kindOf x = some .local ∨ env.kindOf x = some .cell ∨ env.kindOf x = some .free)
  nd : (m.map (·.1)).Nodup
noncomputable def ownOf (env : Env) : List Addr := env.locals :: env.cells.map (·.2)
structure Fx where
  C : Cx
  A : Around
  fs : List Env
  env : Env
noncomputable abbrev Fx.own (X : Fx) : List Addr := ownOf X.env
noncomputable abbrev Fx.hd (X : Fx) : Option Value := X.A.handled
structure FxOk (X : Fx) : Prop where
  frames : X.A.frames = some X.fs
  top : ∃ e l, X.fs = e :: l ∧ e.frame = X.env.frame ∧ e.scope.isGenerator = false ∧ e.scope.isCoroutine = false ∧ e.builtins = builtinsNs ∧ e.globals = mainGlobals
  fn : X.env.scope.kind = .function
  gl : X.env.globals = mainGlobals
  bl : X.env.builtins = builtinsNs
  nb : X.A.handled ≠ some byPass
  cellsApart : (X.env.cells.map (·.2)).Nodup
  localsApart : X.env.locals ∉ X.env.cells.map (·.2)
structure SmF (X : Fx) (m : List (Str × MV)) (σ : MHeap) (s : Shared) : Prop extends Sm X.C X.hd X.fs σ s where
  ok : FxOk X
  frame : FrameR X.env m s.heap
  sepo : ∀ b ∈ X.own, X.C.g.get? b = none ∧ ¬ σ.Dom b
  ownc : ∀ b ∈ X.own, ∃ o, s.heap.get? b = some o ∧ ¬ Fixed o
inductive Kind where | i | l | d
noncomputable def kindOf (o : Obj) : Option Kind := match o.cls with
  | .ref _ => some .i
  | .type n => if n = "list" then some .l else if n = "dict" then some .d else none
  | _ => none
theorem Objs.kI {C : Cx} {σ : MHeap} {h : Heap} (O : Objs C σ h) {a : Addr} {o : Obj} (e : h.get? a = some o) {x} (q : σ.I a = some x) : kindOf o = some .i := by
  obtain ⟨c, d⟩ := x
  have := O.I a c d q
  rw [e] at this; cases this; rfl
theorem Objs.kL {C : Cx} {σ : MHeap} {h : Heap} (O : Objs C σ h) {a : Addr} {o : Obj} (e : h.get? a = some o) {x} (q : σ.L a = some x) : kindOf o = some .l := by
  obtain ⟨vs, n, e', _⟩ := O.L a x q
  rw [e] at e'; cases e'; rfl
theorem Objs.kD {C : Cx} {σ : MHeap} {h : Heap} (O : Objs C σ h) {a : Addr} {o : Obj} (e : h.get? a = some o) {x} (q : σ.D a = some x) : kindOf o = some .d := by
  obtain ⟨kvs, ⟨o', es, ep, ho, hc, _⟩, _⟩ := O.D a x q
  rw [e] at ho; cases ho
  unfold kindOf; rw [hc.1]; rfl
theorem Objs.kS {C : Cx} {σ : MHeap} {h : Heap} (O : Objs C σ h) {a : Addr} {o : Obj} (e : h.get? a = some o) {x} (q : σ.S a = some x) : kindOf o = some .d := by
  obtain ⟨kvs, ⟨o', es, ep, ho, hc, _⟩, _⟩ := O.S a x q
  rw [e] at ho; cases ho
  unfold kindOf; rw [hc.1]; rfl
structure AtD (C : Cx) (σ : MHeap) (h : Heap) (a : Addr) : Prop where
  I : ∀ c d, σ.I a = some (c, d) → h.get? a = some (instObj c d)
  L : ∀ l, σ.L a = some l → ∃ vs n, h.get? a = some (listOf vs n) ∧ VRs h l vs.toList
  D : ∀ l, σ.D a = some l → ∃ kvs, h.DictOf (intKind C.prog C.w) a kvs ∧ KVs h l kvs
  S : ∀ l, σ.S a = some l → ∃ kvs, h.DictOf (strKind C.prog C.w) a kvs ∧ KVs h l kvs
  X : σ.D a = none ∨ σ.S a = none
  E : ∀ ep, σ.E a = some ep → σ.Dom a ∧ ∃ o es, h.get? a = some o ∧ o.data = .dict es ep
noncomputable def SameOff (d : Addr) (σ σ' : MHeap) : Prop := ∀ a, a ≠ d → σ'.I a = σ.I a ∧ σ'.L a = σ.L a ∧ σ'.D a = σ.D a ∧ σ'.S a = σ.S a ∧ σ'.E a = σ.E a
theorem SameOff.setL {σ : MHeap} {d : Addr} {x} : SameOff d σ (σ.setL d x) := fun a n => ⟨rfl, by show MHeap.up _ _ _ _ = _; unfold MHeap.up; rw [if_neg n], rfl, rfl, by show MHeap.clr _ _ _ = _; unfold MHeap.clr; rw [if_neg n]⟩
theorem SameOff.setI {σ : MHeap} {d : Addr} {x} : SameOff d σ (σ.setI d x) := fun a n => ⟨by show MHeap.up _ _ _ _ = _; unfold MHeap.up; rw [if_neg n], rfl, rfl, rfl, by show MHeap.clr _ _ _ = _; unfold MHeap.clr; rw [if_neg n]⟩
theorem SameOff.setD {σ : MHeap} {d : Addr} {x} : SameOff d σ (σ.setD d x) := fun a n => ⟨rfl, rfl, by show MHeap.up _ _ _ _ = _; unfold MHeap.up; rw [if_neg n], rfl, by show MHeap.clr _ _ _ = _; unfold MHeap.clr; rw [if_neg n]⟩
theorem SameOff.setS {σ : MHeap} {d : Addr} {x} : SameOff d σ (σ.setS d x) := fun a n => ⟨rfl, rfl, rfl, by show MHeap.up _ _ _ _ = _; unfold MHeap.up; rw [if_neg n], by show MHeap.clr _ _ _ = _; unfold MHeap.clr; rw [if_neg n]⟩
theorem SameOff.dom {σ σ' : MHeap} {d : Addr} (x : SameOff d σ σ') {b : Addr} (n : b ≠ d) (q : σ'.Dom b) : σ.Dom b := by
  obtain ⟨a1, a2, a3, a4, _⟩ := x b n
  unfold MHeap.Dom at q ⊢
  rwa [a1, a2, a3, a4] at q
theorem SameOff.refl {d : Addr} {σ : MHeap} : SameOff d σ σ := fun _ _ => ⟨rfl, rfl, rfl, rfl, rfl⟩
theorem Objs.upd {C : Cx} {σ σ' : MHeap} {h h' : Heap} {d : Addr} (O : Objs C σ h) (k : ∀ b o, b ≠ d → h.get? b = some o → h'.get? b = some o) (hd : ∀ o, h.get? d = some o → ¬ Fixed o)
    (so : SameOff d σ σ') (at_ : AtD C σ' h' d) : Objs C σ' h' := by
  have fx : ∀ b o, h.get? b = some o → Fixed o → h'.get? b = some o := fun b o e f => k b o (fun q => hd o (q ▸ e) f) e
  refine ⟨fun a c x e => ?_, fun a l e => ?_, fun a l e => ?_, fun a l e => ?_, fun a => ?_, fun a ep e => ?_⟩
  · by_cases q : a = d
    · subst q; exact at_.I c x e
    · rw [(so a q).1] at e; exact k _ _ q (O.I a c x e)
  · by_cases q : a = d
    · subst q; exact at_.L l e
    · rw [(so a q).2.1] at e
      obtain ⟨vs, n, g, r⟩ := O.L a l e
      exact ⟨vs, n, k _ _ q g, r.move fx⟩
  · by_cases q : a = d
    · subst q; exact at_.D l e
    · rw [(so a q).2.2.1] at e
      obtain ⟨kvs, ⟨o, es, ep, ho, r⟩, g⟩ := O.D a l e
      exact ⟨kvs, ⟨o, es, ep, k _ _ q ho, r⟩, g.move fx⟩
  · by_cases q : a = d
    · subst q; exact at_.S l e
    · rw [(so a q).2.2.2.1] at e
      obtain ⟨kvs, ⟨o, es, ep, ho, r⟩, g⟩ := O.S a l e
      exact ⟨kvs, ⟨o, es, ep, k _ _ q ho, r⟩, g.move fx⟩
  · by_cases q : a = d
    · subst q; exact at_.X
    · rw [(so a q).2.2.1, (so a q).2.2.2.1]; exact O.X a
  · by_cases q : a = d
    · subst q; exact at_.E ep e
    · rw [(so a q).2.2.2.2] at e
      obtain ⟨dm, o, es, ho, hd⟩ := O.E a ep e
      refine ⟨?_, o, es, k _ _ q ho, hd⟩
      obtain ⟨a1, a2, a3, a4, _⟩ := so a q
      unfold MHeap.Dom at dm ⊢
      rwa [a1, a2, a3, a4]
theorem none_by {α : Type} {x : Option α} (h : ∀ y, x = some y → False) : x = none := by
  cases x with
  | none => rfl
  | some y => exact (h y rfl).elim
theorem Objs.none_of {C : Cx} {σ : MHeap} {h : Heap} (O : Objs C σ h) {a : Addr} (e : h.get? a = none) : σ.I a = none ∧ σ.L a = none ∧ σ.D a = none ∧ σ.S a = none := by
  refine ⟨none_by fun x q => ?_, none_by fun x q => ?_, none_by fun x q => ?_, none_by fun x q => ?_⟩
  · obtain ⟨o, e'⟩ := O.there (a := a) (.inl (by rw [q]; nofun)); rw [e] at e'; cases e'
  · obtain ⟨o, e'⟩ := O.there (a := a) (.inr (.inl (by rw [q]; nofun))); rw [e] at e'; cases e'
  · obtain ⟨o, e'⟩ := O.there (a := a) (.inr (.inr (.inl (by rw [q]; nofun)))); rw [e] at e'; cases e'
  · obtain ⟨o, e'⟩ := O.there (a := a) (.inr (.inr (.inr (by rw [q]; nofun)))); rw [e] at e'; cases e'
theorem Objs.only {C : Cx} {σ : MHeap} {h : Heap} (O : Objs C σ h) {a : Addr} {o : Obj} (e : h.get? a = some o) :
    (kindOf o ≠ some .i → σ.I a = none) ∧ (kindOf o ≠ some .l → σ.L a = none) ∧ (kindOf o ≠ some .d → σ.D a = none) ∧ (kindOf o ≠ some .d → σ.S a = none) := by
  refine ⟨fun n => none_by fun x q => ?_, fun n => none_by fun x q => ?_, fun n => none_by fun x q => ?_, fun n => none_by fun x q => ?_⟩
  · exact absurd (O.kI e q) n
  · exact absurd (O.kL e q) n
  · exact absurd (O.kD e q) n
  · exact absurd (O.kS e q) n
theorem up_self {α : Type} (f : Addr → Option α) (a : Addr) (x : α) : MHeap.up f a x a = some x := by unfold MHeap.up; rw [if_pos rfl]
theorem AtD.list {C : Cx} {σ : MHeap} {h h' : Heap} {a : Addr} {l : List MV} {vs : Array Value} {n : Nat} (O : Objs C σ h) (old : (∃ x, σ.L a = some x) ∨ h.get? a = none) (e : h'.get? a = some (listOf vs n)) (r : VRs h' l vs.toList) :
    AtD C (σ.setL a l) h' a := by
  have q : σ.I a = none ∧ σ.D a = none ∧ σ.S a = none := by
    rcases old with ⟨x, q⟩ | q
    · obtain ⟨o, e'⟩ := O.there (a := a) (.inr (.inl (by rw [q]; nofun)))
      have z := O.only e'
      have k := O.kL e' q
      exact ⟨z.1 (by rw [k]; nofun), z.2.2.1 (by rw [k]; nofun), z.2.2.2 (by rw [k]; nofun)⟩
    · have z := O.none_of q; exact ⟨z.1, z.2.2.1, z.2.2.2⟩
  refine ⟨fun c d z => ?_, fun l' z => ?_, fun l' z => ?_, fun l' z => ?_, .inl q.2.1, fun ep z => by have z : MHeap.clr _ _ _ = _ := z; unfold MHeap.clr at z; rw [if_pos rfl] at z; cases z⟩
  · have : σ.I a = some (c, d) := z; rw [q.1] at this; cases this
  · have : MHeap.up σ.L a l a = some l' := z
    rw [up_self] at this; cases this; exact ⟨vs, n, e, r⟩
  · have : σ.D a = some l' := z; rw [q.2.1] at this; cases this
  · have : σ.S a = some l' := z; rw [q.2.2] at this; cases this
theorem AtD.idict {C : Cx} {σ : MHeap} {h h' : Heap} {a : Addr} {l : List (Int × MV)} {kvs : List (Int × Value)} (O : Objs C σ h) (old : (∃ x, σ.D a = some x) ∨ h.get? a = none) (e : h'.DictOf (intKind C.prog C.w) a kvs) (r : KVs h' l kvs) :
    AtD C (σ.setD a l) h' a := by
  have q : σ.I a = none ∧ σ.L a = none ∧ σ.S a = none := by
    rcases old with ⟨x, q⟩ | q
    · obtain ⟨o, e'⟩ := O.there (a := a) (.inr (.inr (.inl (by rw [q]; nofun))))
      have z := O.only e'
      have k := O.kD e' q
      refine ⟨z.1 (by rw [k]; nofun), z.2.1 (by rw [k]; nofun), ?_⟩
      rcases O.X a with y | y
      · rw [q] at y; cases y
      · exact y
    · have z := O.none_of q; exact ⟨z.1, z.2.1, z.2.2.2⟩
  refine ⟨fun c d z => ?_, fun l' z => ?_, fun l' z => ?_, fun l' z => ?_, .inr q.2.2, fun ep z => by have z : MHeap.clr _ _ _ = _ := z; unfold MHeap.clr at z; rw [if_pos rfl] at z; cases z⟩
  · have : σ.I a = some (c, d) := z; rw [q.1] at this; cases this
  · have : σ.L a = some l' := z; rw [q.2.1] at this; cases this
  · have : MHeap.up σ.D a l a = some l' := z
    rw [up_self] at this; cases this; exact ⟨kvs, e, r⟩
  · have : σ.S a = some l' := z; rw [q.2.2] at this; cases this
theorem AtD.sdict {C : Cx} {σ : MHeap} {h h' : Heap} {a : Addr} {l : List (Str × MV)} {kvs : List (Str × Value)} (O : Objs C σ h) (old : (∃ x, σ.S a = some x) ∨ h.get? a = none) (e : h'.DictOf (strKind C.prog C.w) a kvs) (r : KVs h' l kvs) :
    AtD C (σ.setS a l) h' a := by
  have q : σ.I a = none ∧ σ.L a = none ∧ σ.D a = none := by
    rcases old with ⟨x, q⟩ | q
    · obtain ⟨o, e'⟩ := O.there (a := a) (.inr (.inr (.inr (by rw [q]; nofun))))
      have z := O.only e'
      have k := O.kS e' q
      refine ⟨z.1 (by rw [k]; nofun), z.2.1 (by rw [k]; nofun), ?_⟩
      rcases O.X a with y | y
      · exact y
      · rw [q] at y; cases y
    · have z := O.none_of q; exact ⟨z.1, z.2.1, z.2.2.1⟩
  refine ⟨fun c d z => ?_, fun l' z => ?_, fun l' z => ?_, fun l' z => ?_, .inl q.2.2, fun ep z => by have z : MHeap.clr _ _ _ = _ := z; unfold MHeap.clr at z; rw [if_pos rfl] at z; cases z⟩
  · have : σ.I a = some (c, d) := z; rw [q.1] at this; cases this
  · have : σ.L a = some l' := z; rw [q.2.1] at this; cases this
  · have : σ.D a = some l' := z; rw [q.2.2] at this; cases this
  · have : MHeap.up σ.S a l a = some l' := z
    rw [up_self] at this; cases this; exact ⟨kvs, e, r⟩
theorem AtD.inst {C : Cx} {σ : MHeap} {h h' : Heap} {a c d : Addr} (O : Objs C σ h) (old : h.get? a = none) (e : h'.get? a = some (instObj c d)) : AtD C (σ.setI a (c, d)) h' a := by
  have q := O.none_of old
  refine ⟨fun c' d' z => ?_, fun l' z => ?_, fun l' z => ?_, fun l' z => ?_, .inl q.2.2.1, fun ep z => by have z : MHeap.clr _ _ _ = _ := z; unfold MHeap.clr at z; rw [if_pos rfl] at z; cases z⟩
  · have : MHeap.up σ.I a (c, d) a = some (c', d') := z
    rw [up_self] at this; cases this; exact e
  · have : σ.L a = some l' := z; rw [q.2.1] at this; cases this
  · have : σ.D a = some l' := z; rw [q.2.2.1] at this; cases this
  · have : σ.S a = some l' := z; rw [q.2.2.2] at this; cases this
theorem funFrames_re {g h h' : Heap} : ∀ {fs : List Env}, h.FunFrames g fs → (∀ b ∈ frs fs, ∃ o, h'.get? b = some o ∧ ¬ Fixed o) → h'.FunFrames g fs
  | [], _, _ => trivial
  | env :: r, ⟨hk, ⟨L, o, hf, hn, ho, hd⟩, hr⟩, k => by
    have hm : L ∈ frs (env :: r) := by unfold frs; rw [List.filterMap_cons, hf]; exact .head _
    obtain ⟨o', e', n⟩ := k L hm
    exact ⟨hk, ⟨L, o', hf, hn, e', fun vs q => n (.inr ⟨vs, q⟩)⟩, funFrames_re hr fun b hb => k b (by unfold frs; rw [List.filterMap_cons, hf]; exact .tail _ hb)⟩
theorem Sm.step {C : Cx} {hd : Option Value} {fs : List Env} {own : List Addr} {σ σ' : MHeap} {s : Shared} {h' : Heap} {tk : Nat} (S : Sm C hd fs σ s) (w : OwnOk own s.heap) (so : ∀ b ∈ own, C.g.get? b = none)
    (T : Tr fs own σ s.heap σ' h') (O : Objs C σ' h') (w' : OwnOk own h') : Sm C hd fs σ' { s with heap := h', toks := tk } := by
  have nf : ∀ b o, C.g.get? b = some o → b ∉ frs fs := fun b o e m => by
    have := (S.funf.mem m).1; rw [e] at this; cases this
  have base : ∀ b o, C.g.get? b = some o → h'.get? b = some o := fun b o e =>
    T.keep b o (S.base b o e) (fun d => by have := S.sep b d; rw [e] at this; cases this) (fun m => by have := so b m; rw [e] at this; cases this) (nf b o e)
  have frc : ∀ b ∈ frs fs, ¬ σ'.Dom b ∧ ∃ o, h'.get? b = some o ∧ ¬ Fixed o := fun b m => by
    obtain ⟨n, o, e, f⟩ := S.frc b m
    refine ⟨fun d => ?_, ?_⟩
    · rcases T.grow b d with d | d
      · exact n d
      · rw [e] at d; cases d
    · by_cases q : b ∈ own
      · exact w' b q
      · obtain ⟨sl, e'⟩ := T.slots b o e n q
        refine ⟨_, e', fun z => f ?_⟩
        exact z
  refine ⟨base, fun b d => ?_, O, funFrames_re S.funf fun b m => (frc b m).2, frc, S.gens, S.os, fun v hv => ?_⟩
  · rcases T.grow b d with d | d
    · exact S.sep b d
    · cases e : C.g.get? b with
      | none => rfl
      | some o => have := S.base b o e; rw [d] at this; cases this
  · obtain ⟨e, l, hv', c⟩ := S.hnd v hv
    exact ⟨e, l, hv', c.move (T.fixed S w)⟩
theorem Ns.slots {h h' : Heap} {a : Addr} {f : Str → Option Value} (n : h.Ns a f) (k : ∀ o, h.get? a = some o → ∃ sl, h'.get? a = some { o with slots := sl }) : h'.Ns a f := by
  obtain ⟨o, es, ep, ho, hd, r⟩ := n
  obtain ⟨sl, e⟩ := k o ho
  exact ⟨_, es, ep, e, hd, r⟩
theorem IsCell.slots {h h' : Heap} {a : Addr} {v : Option Value} (n : h.IsCell a v) (k : ∀ o, h.get? a = some o → ∃ sl, h'.get? a = some { o with slots := sl }) : h'.IsCell a v := by
  obtain ⟨o, ho, hd⟩ := n
  obtain ⟨sl, e⟩ := k o ho
  exact ⟨_, e, hd⟩
theorem lookup_cells {l : List (Str × Addr)} {x : Str} {c : Addr} (h : l.lookup x = some c) : c ∈ l.map (·.2) := by
  induction l with
  | nil => cases h
  | cons y r ih =>
    obtain ⟨k, a⟩ := y
    rw [List.lookup_cons] at h
    split at h
    · cases h; exact .head _
    · exact .tail _ (ih h)
theorem FrameR.move {X : Fx} {m : List (Str × MV)} {σ σ' : MHeap} {s : Shared} {h' : Heap} (S : SmF X m σ s) (T : Tr X.fs [] σ s.heap σ' h') : FrameR X.env m h' := by
  have fx := T.fixed S.toSm OwnOk.nil
  have ko : ∀ b ∈ X.own, ∀ o, s.heap.get? b = some o → ∃ sl, h'.get? b = some { o with slots := sl } := fun b m o e => T.slots b o e (S.sepo b m).2 (fun q => by cases q)
  obtain ⟨⟨f, n, k⟩, c, l, o, nd⟩ := S.frame
  refine ⟨⟨f, Ns.slots n (ko _ (.head _)), fun x v a b => ?_⟩, fun x v a b => ?_, fun x a => ?_, o, nd⟩
  · obtain ⟨v', h1, h2⟩ := k x v a b; exact ⟨v', h1, h2.move fx⟩
  · obtain ⟨cc, v', h1, h2, h3⟩ := c x v a b
    exact ⟨cc, v', h1, IsCell.slots h2 (ko _ (.tail _ (lookup_cells h1))), h3.move fx⟩
  · obtain ⟨cc, v', h1, h2⟩ := l x a
    exact ⟨cc, v', h1, IsCell.slots h2 (ko _ (.tail _ (lookup_cells h1)))⟩
theorem SmF.stepE {X : Fx} {m : List (Str × MV)} {σ σ' : MHeap} {s : Shared} {h' : Heap} {tk : Nat} (S : SmF X m σ s) (T : Tr X.fs [] σ s.heap σ' h') (O : Objs X.C σ' h') : SmF X m σ' { s with heap := h', toks := tk } := by
  have ow : ∀ b ∈ X.own, ∃ o, h'.get? b = some o ∧ ¬ Fixed o := fun b m => by
    obtain ⟨o, e, f⟩ := S.ownc b m
    obtain ⟨sl, e'⟩ := T.slots b o e (S.sepo b m).2 (fun q => by cases q)
    exact ⟨_, e', fun z => f z⟩
  refine { toSm := S.toSm.step (own := []) OwnOk.nil (fun _ q => by cases q) T O OwnOk.nil, ok := S.ok, frame := FrameR.move S T, sepo := fun b m => ⟨(S.sepo b m).1, fun d => ?_⟩, ownc := ow }
  rcases T.grow b d with d | d
  · exact (S.sepo b m).2 d
  · obtain ⟨o, e, _⟩ := S.ownc b m; rw [d] at e; cases e
theorem SmF.redo {X : Fx} {m : List (Str × MV)} {σ : MHeap} {s : Shared} {h' : Heap} {tk : Nat} (S : SmF X m σ s) (bad : Addr → Prop) (hb : ∀ b, bad b → X.C.g.get? b = none ∧ ∀ o, s.heap.get? b = some o → ∃ vs, o.data = .fields vs)
    (hh : ∀ v, X.hd = some v → ∃ e l, v = .ref e ∧ Chain h' e l)
    (keep : ∀ b o, s.heap.get? b = some o → ¬ bad b → b ∉ frs X.fs → h'.get? b = some o) (slots : ∀ b o, s.heap.get? b = some o → ¬ bad b → ∃ sl, h'.get? b = some { o with slots := sl }) :
    SmF X m σ { s with heap := h', toks := tk } := by
  have nb : ∀ b o, s.heap.get? b = some o → (∀ vs, o.data ≠ .fields vs) → ¬ bad b := fun b o e n q => by
    obtain ⟨vs, z⟩ := (hb b q).2 o e; exact n vs z
  have nf : ∀ o, ¬ Fixed o → ∀ vs, o.data ≠ .fields vs := fun o n vs q => n (.inr ⟨vs, q⟩)
  have tt : ∀ b o, s.heap.get? b = some o → FixT o → h'.get? b = some o := fun b o e f => by
    refine keep b o e (nb b o e fun vs q => ?_) (S.apart e (.inl f)).2
    obtain ⟨_, x, n, z⟩ := f; rw [z] at q; cases q
  have dm : ∀ b, σ.Dom b → ∀ o, s.heap.get? b = some o → h'.get? b = some o := fun b d o e => by
    obtain ⟨o', e', n⟩ := S.objs.notFixed d
    rw [e] at e'; cases e'
    exact keep b o e (nb b o e (nf o n)) fun q => (S.frc b q).1 d
  have ow : ∀ b ∈ X.own, ∀ o, s.heap.get? b = some o → ∃ sl, h'.get? b = some { o with slots := sl } := fun b q o e => by
    obtain ⟨o', e', n⟩ := S.ownc b q
    rw [e] at e'; cases e'
    exact slots b o e (nb b o e (nf o n))
  have fr : ∀ b ∈ frs X.fs, ∃ o, h'.get? b = some o ∧ ¬ Fixed o := fun b q => by
    obtain ⟨_, o, e, n⟩ := S.frc b q
    obtain ⟨sl, e'⟩ := slots b o e (nb b o e (nf o n))
    exact ⟨_, e', fun z => n z⟩
  have O := S.objs
  have obj : Objs X.C σ h' := by
    refine ⟨fun a c x e => ?_, fun a l e => ?_, fun a l e => ?_, fun a l e => ?_, O.X, fun a ep e => ?_⟩
    · exact dm a (.inl (by rw [e]; nofun)) _ (O.I a c x e)
    · obtain ⟨vs, n, g, r⟩ := O.L a l e
      exact ⟨vs, n, dm a (.inr (.inl (by rw [e]; nofun))) _ g, r.moveT tt⟩
    · obtain ⟨kvs, ⟨o, es, ep, ho, r⟩, g⟩ := O.D a l e
      exact ⟨kvs, ⟨o, es, ep, dm a (.inr (.inr (.inl (by rw [e]; nofun)))) _ ho, r⟩, g.moveT tt⟩
    · obtain ⟨kvs, ⟨o, es, ep, ho, r⟩, g⟩ := O.S a l e
      exact ⟨kvs, ⟨o, es, ep, dm a (.inr (.inr (.inr (by rw [e]; nofun)))) _ ho, r⟩, g.moveT tt⟩
    · obtain ⟨dmm, o, es, ho, hd⟩ := O.E a ep e
      have nfx : ∀ vs, o.data ≠ .fields vs := fun vs q => by rw [hd] at q; cases q
      obtain ⟨sl, e'⟩ := slots a o ho (nb a o ho nfx)
      exact ⟨dmm, _, es, e', hd⟩
  have base : ∀ b o, X.C.g.get? b = some o → h'.get? b = some o := fun b o e => keep b o (S.base b o e) (fun q => by rw [(hb b q).1] at e; cases e) (fun q => by have := (S.funf.mem q).1; rw [e] at this; cases this)
  refine { base := base, sep := S.sep, objs := obj, funf := funFrames_re S.funf fr, frc := fun b q => ⟨(S.frc b q).1, fr b q⟩, gens := S.gens, os := S.os, hnd := hh, ok := S.ok, frame := ?_, sepo := S.sepo, ownc := fun b q => ?_ }
  · obtain ⟨⟨f, n, k⟩, c, l, o, nd⟩ := S.frame
    refine ⟨⟨f, Ns.slots n (ow _ (.head _)), fun x v a b => ?_⟩, fun x v a b => ?_, fun x a => ?_, o, nd⟩
    · obtain ⟨v', h1, h2⟩ := k x v a b; exact ⟨v', h1, h2.moveT tt⟩
    · obtain ⟨cc, v', h1, h2, h3⟩ := c x v a b
      exact ⟨cc, v', h1, IsCell.slots h2 (ow _ (.tail _ (lookup_cells h1))), h3.moveT tt⟩
    · obtain ⟨cc, v', h1, h2⟩ := l x a
      exact ⟨cc, v', h1, IsCell.slots h2 (ow _ (.tail _ (lookup_cells h1)))⟩
  · obtain ⟨o, e, n⟩ := S.ownc b q
    obtain ⟨sl, e'⟩ := ow b q o e
    exact ⟨_, e', fun z => n z⟩
end Mine
namespace Mine
noncomputable def ExcTb (X : Fx) (nt : Bool) (h₀ : Heap) (x ev : Value) (h : Heap) : Prop :=
  ∃ e oe vs l, ev = .ref e ∧ h₀.get? e = none ∧ h.get? e = some oe ∧ oe.cls = x ∧ oe.data = .fields vs ∧ Chain h e l ∧
    (vs[1]? = some .none ∧ nt = false ∨ ∃ T oT ts fl, vs[1]? = some (.ref T) ∧ h₀.get? T = none ∧ T ∉ l ∧ h.get? T = some oT ∧ oT.data = .fields ts ∧ ts[3]? = some fl ∧ (fl = .none ∨ ∃ L, X.env.frame = some L ∧ fl = rawInt L))
noncomputable def ExcAt (X : Fx) (h₀ : Heap) (x ev : Value) (h : Heap) : Prop := ∃ nt, ExcTb X nt h₀ x ev h
theorem ExcTb.start {X : Fx} {nt : Bool} {h₀ h₁ : Heap} {x ev : Value} {h : Heap} (e : ExcTb X nt h₁ x ev h) (k : ∀ b o, h₀.get? b = some o → ∃ o', h₁.get? b = some o') : ExcTb X nt h₀ x ev h := by
  have nn : ∀ b, h₁.get? b = none → h₀.get? b = none := fun b q => by
    cases z : h₀.get? b with
    | none => rfl
    | some o => obtain ⟨o', y⟩ := k b o z; rw [q] at y; cases y
  obtain ⟨e, oe, vs, l, q1, q2, q3, q4, q5, q6, q7⟩ := e
  refine ⟨e, oe, vs, l, q1, nn _ q2, q3, q4, q5, q6, ?_⟩
  rcases q7 with q7 | ⟨T, oT, ts, fl, r1, r2, r3⟩
  · exact .inl q7
  · exact .inr ⟨T, oT, ts, fl, r1, nn _ r2, r3⟩
theorem ExcAt.start {X : Fx} {h₀ h₁ : Heap} {x ev : Value} {h : Heap} (e : ExcAt X h₁ x ev h) (k : ∀ b o, h₀.get? b = some o → ∃ o', h₁.get? b = some o') : ExcAt X h₀ x ev h := ⟨_, e.choose_spec.start k⟩
noncomputable def OkE (X : Fx) (m : List (Str × MV)) (σ : MHeap) (h₀ : Heap) {α β : Type} (R : Heap → β → α → Prop) (K : β → MHeap → Prop) (Q : α → Shared → Prop) : Prop :=
  ∀ a b σ' s', K b σ' → SmF X m σ' s' → Tr X.fs [] σ h₀ σ' s'.heap → R s'.heap b a → Q a s'
noncomputable def ErE (X : Fx) (m : List (Str × MV)) (σ : MHeap) (h₀ : Heap) (KE : Value → MHeap → Prop) (E : Value → Shared → Prop) : Prop :=
  ∀ e x σ' s', KE x σ' → SmF X m σ' s' → Tr X.fs [] σ h₀ σ' s'.heap → ExcAt X h₀ x e s'.heap → E e s'
theorem OkE.after {X : Fx} {m : List (Str × MV)} {σ σ₁ : MHeap} {h₀ h₁ : Heap} {α β : Type} {R : Heap → β → α → Prop} {K : β → MHeap → Prop} {Q : α → Shared → Prop} (o : OkE X m σ h₀ R K Q) (T : Tr X.fs [] σ h₀ σ₁ h₁) : OkE X m σ₁ h₁ R K Q :=
  fun a b σ' s' k S T' r => o a b σ' s' k S (T.trans T') r
theorem ErE.after {X : Fx} {m : List (Str × MV)} {σ σ₁ : MHeap} {h₀ h₁ : Heap} {KE : Value → MHeap → Prop} {E : Value → Shared → Prop} (o : ErE X m σ h₀ KE E) (T : Tr X.fs [] σ h₀ σ₁ h₁) : ErE X m σ₁ h₁ KE E :=
  fun e x σ' s' k S T' r => o e x σ' s' k S (T.trans T') (r.start T.there)
section
variable {α β : Type}
noncomputable def RunE (X : Fx) (m : List (Str × MV)) (σ : MHeap) (R : Heap → β → α → Prop) (pre : Heap → Prop) (t : Sem α) (K : β → MHeap → Prop) (KE : Value → MHeap → Prop) : Prop :=
  ∀ s, SmF X m σ s → pre s.heap → ∀ (Q : α → Shared → Prop) (E : Value → Shared → Prop), OkE X m σ s.heap R K Q → ErE X m σ s.heap KE E → wpAny X.C.M X.A t Q E s
end
noncomputable abbrev EvE (X : Fx) (m : List (Str × MV)) (σ : MHeap) (e : Expr) (K : MV → MHeap → Prop) (KE : Value → MHeap → Prop) : Prop := RunE X m σ VR (fun _ => True) (eval e X.env) K KE
noncomputable def BR (_ : Heap) (b : Bool) (a : Bool) : Prop := a = b
noncomputable abbrev EvT (X : Fx) (m : List (Str × MV)) (σ : MHeap) (e : Expr) (K : Bool → MHeap → Prop) (KE : Value → MHeap → Prop) : Prop := RunE X m σ BR (fun _ => True) (isTrue e X.env (eval e X.env)) K KE
noncomputable def UR (_ : Heap) (_ _ : Unit) : Prop := True
noncomputable abbrev Op1 (X : Fx) (m : List (Str × MV)) (σ : MHeap) {α β : Type} (R : Heap → β → α → Prop) (f : Value → Sem α) (a : MV) (K : β → MHeap → Prop) (KE : Value → MHeap → Prop) : Prop :=
  ∀ v, RunE X m σ R (fun h => VR h a v) (f v) K KE
noncomputable abbrev Op2 (X : Fx) (m : List (Str × MV)) (σ : MHeap) {α β : Type} (R : Heap → β → α → Prop) (f : Value → Value → Sem α) (a b : MV) (K : β → MHeap → Prop) (KE : Value → MHeap → Prop) : Prop :=
  ∀ v u, RunE X m σ R (fun h => VR h a v ∧ VR h b u) (f v u) K KE
section
variable {X : Fx} {m : List (Str × MV)} {σ : MHeap} {KE : Value → MHeap → Prop}
theorem SmF.fx {s : Shared} (S : SmF X m σ s) {σ' : MHeap} {h' : Heap} (T : Tr X.fs [] σ s.heap σ' h') : ∀ b o, s.heap.get? b = some o → Fixed o → h'.get? b = some o := T.fixed S.toSm OwnOk.nil
theorem SmF.tok {s : Shared} (S : SmF X m σ s) (t : Nat) : SmF X m σ { s with toks := t } :=
  SmF.stepE (h' := s.heap) S Tr.refl S.objs
theorem SmF.K {s : Shared} (S : SmF X m σ s) : X.C.K.In s.heap := X.C.hK.keeps S.base
theorem RunE.mono {α β : Type} {R : Heap → β → α → Prop} {pre : Heap → Prop} {t : Sem α} {K K' : β → MHeap → Prop} {KE KE' : Value → MHeap → Prop} (h : RunE X m σ R pre t K KE) (k : ∀ b σ', K b σ' → K' b σ') (kE : ∀ x σ', KE x σ' → KE' x σ') :
    RunE X m σ R pre t K' KE' := fun s S p Q E q e => h s S p Q E (fun a b σ' s' x => q a b σ' s' (k b σ' x)) (fun ev x σ' s' y => e ev x σ' s' (kE x σ' y))
theorem if_tt {A B : Prop} (h : A) : if true = true then A else B := h
theorem if_ff {A B : Prop} (h : B) : if false = true then A else B := h
theorem if_dec {p : Prop} [Decidable p] {A B : Prop} (h : p → A) (h' : ¬ p → B) : if decide p = true then A else B := by
  by_cases q : p
  · rw [decide_eq_true q]; exact h q
  · rw [decide_eq_false q]; exact h' q
theorem if_not {b : Bool} {A B : Prop} (h : if b = true then B else A) : if (!b) = true then A else B := by cases b <;> exact h
theorem if_bool {b : Bool} {A B : Prop} (h : b = true → A) (h' : b = false → B) : if b = true then A else B := by cases b <;> first | exact h rfl | exact h' rfl
theorem ev_none {k p} {K} (h : K .none σ) : EvE X m σ (.Constant .none k p) K KE := fun s S _ Q E q _ => wpAny_Constant_none (q _ _ σ s h S Tr.refl (by unfold VR; rfl))
theorem ev_bool {b k p} {K} (h : K (.bool b) σ) : EvE X m σ (.Constant (.bool b) k p) K KE := fun s S _ Q E q _ => wpAny_Constant_bool (q _ _ σ s h S Tr.refl (by unfold VR; rfl))
theorem ev_int {i k p} {K} (h : K (.int i) σ) : EvE X m σ (.Constant (.int i) k p) K KE := fun s S _ Q E q _ => wpAny_Constant_int (q _ _ σ _ h (S.tok _) Tr.refl (by unfold VR; exact ⟨_, rfl⟩))
theorem ev_str {x k p} {K} (h : K (.str x) σ) : EvE X m σ (.Constant (.str x) k p) K KE := fun s S _ Q E q _ => wpAny_Constant_str (q _ _ σ _ h (S.tok _) Tr.refl (by unfold VR; exact ⟨_, rfl⟩))
theorem okName_debug {x : Str} (h : okName x = true) : (x == ("__debug__" : Str)) = false := by
  unfold okName at h; simp only [Bool.and_eq_true, Bool.not_eq_true'] at h; exact h.1
theorem okName_cd {x : Str} (h : okName x = true) : (x == ("__classdict__" : Str)) = false := by
  unfold okName at h; simp only [Bool.and_eq_true, Bool.not_eq_true'] at h; exact h.2
theorem ld_var {x v} {s : Shared} (S : SmF X m σ s) (hv : (x, v) ∈ m) {Q : Value → Shared → Prop} {E : Value → Shared → Prop} (q : ∀ a, VR s.heap v a → Q a s) : wpAny X.C.M X.A (loadName X.env x) Q E s := by
  obtain ⟨ok, k⟩ := S.frame.only x v hv
  rcases k with k | k | k
  · obtain ⟨f, n, g⟩ := S.frame.ns
    obtain ⟨v', e, r⟩ := g x v hv k
    exact wpAny_loadName_local S.ok.fn k n e (q v' r)
  · obtain ⟨c, v', e, n, r⟩ := S.frame.cells x v hv (.inl k)
    exact wpAny_loadName_cell S.ok.fn k e n (q v' r)
  · obtain ⟨c, v', e, n, r⟩ := S.frame.cells x v hv (.inr k)
    exact wpAny_loadName_free S.ok.fn k e n (q v' r) (okName_cd ok)
theorem ev_var {x p v} {K} (hv : (x, v) ∈ m) (h : K v σ) : EvE X m σ (.Name x p) K KE := fun s S _ Q E q _ =>
  wpAny_Name (ld_var S hv fun a r => q a v σ s h S Tr.refl r) (okName_debug (S.frame.only x v hv).1)
theorem mg_is {C : Cx} {x : Str} {v : Value} (e : nsIn C.K mainGlobals x = some (some v)) : C.mg x = some v := mg_of C.hK C.hmg e
theorem ev_glob {x p v} {K} (e : nsIn X.C.K mainGlobals x = some (some v)) (hk : X.env.kindOf x = some .globalImplicit) (hd : (x == ("__debug__" : Str)) = false) (h : K (.raw v) σ) : EvE X m σ (.Name x p) K KE := fun s S _ Q E q _ =>
  Calls.Name_function_global S.ok.fn hk (Calls.loadGlobal_global (by rw [S.ok.gl]; exact X.C.hmg.keeps S.base) (mg_is e) (q v (.raw v) σ s h S Tr.refl (by unfold VR; rfl))) hd
theorem ev_blt {x p v} {K} (e : nsIn X.C.K mainGlobals x = some none) (hv : bootBuiltins x = some v) (hn : x ≠ "__name__") (hk : X.env.kindOf x = some .globalImplicit) (hd : (x == ("__debug__" : Str)) = false) (h : K (.raw v) σ) : EvE X m σ (.Name x p) K KE := fun s S _ Q E q _ =>
  Calls.Name_function_global S.ok.fn hk (Calls.loadGlobal_builtin (by rw [S.ok.gl]; exact X.C.hmg.keeps S.base) (mg_none_of X.C.hK X.C.hmg e) (by rw [S.ok.bl]; exact X.C.hmb.keeps S.base) ((X.C.hb x hn).trans hv) (q v (.raw v) σ s h S Tr.refl (by unfold VR; rfl))) hd
theorem ev_BinOp {a op b p} {K} (h : EvE X m σ a (fun va σ₁ => EvE X m σ₁ b (fun vb σ₂ => Op2 X m σ₂ VR (binaryOp op) va vb K KE) KE) KE) : EvE X m σ (.BinOp a op b p) K KE := fun s S _ Q E q e =>
  wpAny_BinOp (h s S trivial _ E (fun v va σ₁ s₁ h₁ S₁ T₁ r₁ => h₁ s₁ S₁ trivial _ E (fun u vb σ₂ s₂ h₂ S₂ T₂ r₂ =>
    h₂ v u s₂ S₂ ⟨r₁.move (S₁.fx T₂), r₂⟩ Q E ((q.after T₁).after T₂) ((e.after T₁).after T₂)) (e.after T₁)) e)
theorem ev_UnaryOp {op a p} {K} (h : EvE X m σ a (fun va σ₁ => Op1 X m σ₁ VR (unaryOp op) va K KE) KE) : EvE X m σ (.UnaryOp op a p) K KE := fun s S _ Q E q e =>
  wpAny_UnaryOp (h s S trivial _ E (fun v va σ₁ s₁ h₁ S₁ T₁ r₁ => h₁ v s₁ S₁ r₁ Q E (q.after T₁) (e.after T₁)) e)
theorem ev_Cmp {a op b p} {K} (h : EvE X m σ a (fun va σ₁ => EvE X m σ₁ b (fun vb σ₂ => Op2 X m σ₂ VR (compareOp op) va vb K KE) KE) KE) (hm : behindInMarks op b = false) : EvE X m σ (.Compare a [op] [b] p) K KE := fun s S _ Q E q e =>
  wpAny_Compare1 (h s S trivial _ E (fun v va σ₁ s₁ h₁ S₁ T₁ r₁ => h₁ s₁ S₁ trivial _ E (fun u vb σ₂ s₂ h₂ S₂ T₂ r₂ =>
    h₂ v u s₂ S₂ ⟨r₁.move (S₁.fx T₂), r₂⟩ Q E ((q.after T₁).after T₂) ((e.after T₁).after T₂)) (e.after T₁)) e) hm
theorem ev_IfExp {t a b p} {K} (h : EvT X m σ t (fun c σ₁ => if c = true then EvE X m σ₁ a K KE else EvE X m σ₁ b K KE) KE) : EvE X m σ (.IfExp t a b p) K KE := fun s S _ Q E q e =>
  wpAny_IfExp (h s S trivial _ E (fun c c' σ₁ s₁ h₁ S₁ T₁ r₁ => by
    have : c = c' := r₁
    subst this
    cases c with
    | true => exact h₁ s₁ S₁ trivial Q E (q.after T₁) (e.after T₁)
    | false => exact h₁ s₁ S₁ trivial Q E (q.after T₁) (e.after T₁)) e)
theorem et_not {x p} {K} (h : EvT X m σ x (fun b σ' => K (!b) σ') KE) : EvT X m σ (.UnaryOp .Not x p) K KE := fun s S _ Q E q e =>
  wpAny_isTrue_Not (h s S trivial _ E (fun a b σ' s' k S' T r => q (!a) (!b) σ' s' k S' T (by have : a = b := r; subst this; exact rfl)) e)
theorem et_val {e : Expr} {K} (h : EvE X m σ e (fun v σ' => Op1 X m σ' BR truthy v K KE) KE) (he : isTrue e X.env (eval e X.env) = (do let v ← eval e X.env; standAt e.pos; holding [v] (truthy v))) : EvT X m σ e K KE := fun s S _ Q E q er =>
  wpAny_isTrue_value (h s S trivial _ E (fun v va σ₁ s₁ h₁ S₁ T₁ r₁ => h₁ v s₁ S₁ r₁ Q E (q.after T₁) (er.after T₁)) er) he
theorem et_cmp {a op b p} {K} (h : EvE X m σ a (fun va σ₁ => EvE X m σ₁ b (fun vb σ₂ => Op2 X m σ₂ VR (compareOp op) va vb (fun v σ₃ => Op1 X m σ₃ BR truthy v K KE) KE) KE) KE) (hm : behindInMarks op b = false) : EvT X m σ (.Compare a [op] [b] p) K KE := fun s S _ Q E q e =>
  wpAny_isTrue_Compare1 (h s S trivial _ E (fun v va σ₁ s₁ h₁ S₁ T₁ r₁ => h₁ s₁ S₁ trivial _ E (fun u vb σ₂ s₂ h₂ S₂ T₂ r₂ =>
    h₂ v u s₂ S₂ ⟨r₁.move (S₁.fx T₂), r₂⟩ _ E (fun c vc σ₃ s₃ h₃ S₃ T₃ r₃ => h₃ c s₃ S₃ r₃ Q E (((q.after T₁).after T₂).after T₃) (((e.after T₁).after T₂).after T₃))
      ((e.after T₁).after T₂)) (e.after T₁)) e) hm
noncomputable abbrev EvA (X : Fx) (m : List (Str × MV)) (σ : MHeap) (op : BoolOp) (l : List Expr) (K : Bool → MHeap → Prop) (KE : Value → MHeap → Prop) : Prop := RunE X m σ BR (fun _ => True) (allTrue op l X.env) K KE
theorem et_bool {op l p} {K} (h : EvA X m σ op l K KE) : EvT X m σ (.BoolOp op l p) K KE := fun s S _ Q E q e => wpAny_isTrue_BoolOp (h s S trivial Q E q e)
theorem ea_and_nil {K} (h : K true σ) : EvA X m σ .And [] K KE := fun s S _ Q E q e => wpAny_allTrue_And_nil (q _ _ σ s h S Tr.refl rfl)
theorem ea_or_nil {K} (h : K false σ) : EvA X m σ .Or [] K KE := fun s S _ Q E q e => wpAny_allTrue_Or_nil (q _ _ σ s h S Tr.refl rfl)
theorem ea_and_cons {x rest} {K} (h : EvT X m σ x (fun c σ₁ => if c = true then EvA X m σ₁ .And rest K KE else K false σ₁) KE) : EvA X m σ .And (x :: rest) K KE := fun s S _ Q E q e =>
  wpAny_allTrue_And_cons (h s S trivial _ E (fun c c' σ₁ s₁ h₁ S₁ T₁ r₁ => by
    have : c = c' := r₁
    subst this
    cases c with
    | true => exact h₁ s₁ S₁ trivial Q E (q.after T₁) (e.after T₁)
    | false => exact q false false σ₁ s₁ h₁ S₁ T₁ rfl) e)
theorem ea_or_cons {x rest} {K} (h : EvT X m σ x (fun c σ₁ => if c = true then K true σ₁ else EvA X m σ₁ .Or rest K KE) KE) : EvA X m σ .Or (x :: rest) K KE := fun s S _ Q E q e =>
  wpAny_allTrue_Or_cons (h s S trivial _ E (fun c c' σ₁ s₁ h₁ S₁ T₁ r₁ => by
    have : c = c' := r₁
    subst this
    cases c with
    | true => exact q true true σ₁ s₁ h₁ S₁ T₁ rfl
    | false => exact h₁ s₁ S₁ trivial Q E (q.after T₁) (e.after T₁)) e)
end
end Mine
namespace Mine
noncomputable def Room (A : Around) (n : Nat) : Prop := A.depth + n ≤ 800 ∧ A.units + 12 * n ≤ 9000
section
variable {X : Fx} {m : List (Str × MV)} {σ : MHeap} {KE : Value → MHeap → Prop}
theorem VR.int {h : Heap} {i : Int} {v : Value} (r : VR h (.int i) v) : ∃ t, v = .int i t := by unfold VR at r; exact r
theorem VR.str {h : Heap} {i : Str} {v : Value} (r : VR h (.str i) v) : ∃ t, v = .str i t := by unfold VR at r; exact r
theorem VR.bool {h : Heap} {i : Bool} {v : Value} (r : VR h (.bool i) v) : v = .bool i := by unfold VR at r; exact r
theorem VR.none {h : Heap} {v : Value} (r : VR h .none v) : v = .none := by unfold VR at r; exact r
theorem VR.ref {h : Heap} {a : Addr} {v : Value} (r : VR h (.ref a) v) : v = .ref a := by unfold VR at r; exact r
theorem VR.raw {h : Heap} {a : Value} {v : Value} (r : VR h (.raw a) v) : v = a := by unfold VR at r; exact r
theorem VR.tup {h : Heap} {l : List MV} {v : Value} (r : VR h (.tup l) v) : ∃ a vs, v = .ref a ∧ IsTup h a vs ∧ VRs h l vs.toList := by unfold VR at r; exact r
theorem VR.ofInt {h : Heap} {i : Int} {t : Tok} : VR h (.int i) (.int i t) := by unfold VR; exact ⟨t, rfl⟩
theorem VR.ofBool {h : Heap} {b : Bool} : VR h (.bool b) (.bool b) := by unfold VR; rfl
theorem VR.ofNone {h : Heap} : VR h .none .none := by unfold VR; rfl
theorem VR.ofRef {h : Heap} {a : Addr} : VR h (.ref a) (.ref a) := by unfold VR; rfl
theorem VR.ofRaw {h : Heap} {v : Value} : VR h (.raw v) v := by unfold VR; rfl
theorem op2_int {f : Value → Value → Sem Value} {a b c : Int} {K} (hf : ∀ (s : Shared) (t u : Tok) (Q : Value → Shared → Prop) (E : Value → Shared → Prop), SmF X m σ s → (∀ k n, Q (.int c k) { s with toks := n }) → wpAny X.C.M X.A (f (.int a t) (.int b u)) Q E s) (h : K (.int c) σ) :
    Op2 X m σ VR f (.int a) (.int b) K KE := fun v u s S p Q E q e => by
  obtain ⟨t, rfl⟩ := p.1.int
  obtain ⟨t', rfl⟩ := p.2.int
  exact hf s t t' Q E S fun k n => q _ _ σ _ h (S.tok n) Tr.refl VR.ofInt
theorem op2_ib {f : Value → Value → Sem Value} {a b : Int} {c : Bool} {K} (hf : ∀ (s : Shared) (t u : Tok) (Q : Value → Shared → Prop) (E : Value → Shared → Prop), Q (.bool c) s → wpAny X.C.M X.A (f (.int a t) (.int b u)) Q E s) (h : K (.bool c) σ) :
    Op2 X m σ VR f (.int a) (.int b) K KE := fun v u s S p Q E q e => by
  obtain ⟨t, rfl⟩ := p.1.int
  obtain ⟨t', rfl⟩ := p.2.int
  exact hf s t t' Q E (q _ _ σ _ h S Tr.refl VR.ofBool)
theorem o_add {a b : Int} {K} (h : K (.int (a + b)) σ) : Op2 X m σ VR (binaryOp .Add) (.int a) (.int b) K KE := op2_int (fun s t u Q E _ q => P.add_int (q _ _)) h
theorem o_sub {a b : Int} {K} (h : K (.int (a - b)) σ) : Op2 X m σ VR (binaryOp .Sub) (.int a) (.int b) K KE := op2_int (fun s t u Q E _ q => P.sub_int (q _ _)) h
theorem o_iadd {a b : Int} {K} (h : K (.int (a + b)) σ) : Op2 X m σ VR (inplaceOp .Add) (.int a) (.int b) K KE := op2_int (fun s t u Q E _ q => P.iadd_int (q _ _)) h
theorem o_isub {a b : Int} {K} (h : K (.int (a - b)) σ) : Op2 X m σ VR (inplaceOp .Sub) (.int a) (.int b) K KE := op2_int (fun s t u Q E _ q => P.isub_int (q _ _)) h
theorem o_mul {a b : Int} {K} (hm : IntMulOk a b) (h : K (.int (a * b)) σ) : Op2 X m σ VR (binaryOp .Mult) (.int a) (.int b) K KE := op2_int (fun s t u Q E _ q => P.mul_int (q _ _) hm) h
theorem SmF.lim {s : Shared} (S : SmF X m σ s) : s.heap.NoLimit := X.C.hlim.keeps S.base
theorem SmF.pylong {s : Shared} (S : SmF X m σ s) {n : Nat} (hr : Room X.A n) : PylongRoom X.C.M X.A s := by
  obtain ⟨e, l, hl, _, t1, t2, t3, t4⟩ := S.ok.top
  refine PylongRoom.of S.lim ?_ (SeerAt.of (X.C.hseer.keeps S.base) X.C.htree (S.ok.frames.trans (by rw [hl])) t1 t2 t3 t4)
  have : Builtin.pylongFrames < 200 := by decide
  have h2 : recursionLimit = 1000 := rfl
  have := hr.1
  omega
theorem o_fdiv {a b : Int} {n : Nat} {K} (hb : 0 < b) (hr : Room X.A n) (h : K (.int (a / b)) σ) : Op2 X m σ VR (binaryOp .FloorDiv) (.int a) (.int b) K KE := op2_int (fun s t u Q E S q => floordiv_int (by omega) (by rw [Int.fdiv_eq_ediv_of_nonneg a (by omega)]; exact q _ _) (.inr (S.pylong hr))) h
theorem o_mod {a b : Int} {K} (hb : 0 < b) (h : K (.int (a % b)) σ) : Op2 X m σ VR (binaryOp .Mod) (.int a) (.int b) K KE := op2_int (fun s t u Q E S q => mod_int' (by omega) (by rw [Int.fmod_eq_emod_of_nonneg a (by omega)]; exact q _ _)) h
theorem o_eq {a b : Int} {K} (h : K (.bool (decide (a = b))) σ) : Op2 X m σ VR (compareOp .Eq) (.int a) (.int b) K KE := op2_ib (fun s t u Q E q => P.eq_int q) h
theorem o_ne {a b : Int} {K} (h : K (.bool (!decide (a = b))) σ) : Op2 X m σ VR (compareOp .NotEq) (.int a) (.int b) K KE := op2_ib (fun s t u Q E q => P.ne_int q) h
theorem o_lt {a b : Int} {K} (h : K (.bool (decide (a < b))) σ) : Op2 X m σ VR (compareOp .Lt) (.int a) (.int b) K KE := op2_ib (fun s t u Q E q => P.lt_int q) h
theorem o_le {a b : Int} {K} (h : K (.bool (decide (a ≤ b))) σ) : Op2 X m σ VR (compareOp .LtE) (.int a) (.int b) K KE := op2_ib (fun s t u Q E q => P.le_int q) h
theorem o_gt {a b : Int} {K} (h : K (.bool (decide (b < a))) σ) : Op2 X m σ VR (compareOp .Gt) (.int a) (.int b) K KE := op2_ib (fun s t u Q E q => P.gt_int q) h
theorem o_ge {a b : Int} {K} (h : K (.bool (decide (b ≤ a))) σ) : Op2 X m σ VR (compareOp .GtE) (.int a) (.int b) K KE := op2_ib (fun s t u Q E q => P.ge_int q) h
theorem t_bool {b : Bool} {K} (h : K b σ) : Op1 X m σ BR truthy (.bool b) K KE := fun v s S p Q E q e => by
  obtain rfl := VR.bool p
  exact wpAny_truthy_bool (q _ _ σ _ h S Tr.refl rfl)
theorem t_int {a : Int} {K} (h : K (!decide (a = 0)) σ) : Op1 X m σ BR truthy (.int a) K KE := fun v s S p Q E q e => by
  obtain ⟨t, rfl⟩ := VR.int p
  exact P.truthy_int (q _ _ σ _ h S Tr.refl rfl)
theorem t_none {K} (h : K false σ) : Op1 X m σ BR truthy .none K KE := fun v s S p Q E q e => by
  obtain rfl := VR.none p
  exact truthy_none (q _ _ σ _ h S Tr.refl rfl)
noncomputable def MV.isNone : MV → Bool
  | .none => true
  | .raw v => v == .none
  | _ => false
theorem isNone_is {h : Heap} {a : MV} {v : Value} (r : VR h a v) : (v == .none) = a.isNone := by
  cases a with
  | none => obtain rfl := r.none; rfl
  | bool => obtain rfl := r.bool; rfl
  | int => obtain ⟨t, rfl⟩ := r.int; rfl
  | str => obtain ⟨t, rfl⟩ := r.str; rfl
  | ref => obtain rfl := r.ref; rfl
  | tup => obtain ⟨a, vs, rfl, _⟩ := r.tup; rfl
  | raw => obtain rfl := r.raw; rfl
theorem o_isNone {a : MV} {K} (h : K (.bool a.isNone) σ) : Op2 X m σ VR (compareOp .Is) a .none K KE := fun v u s S p Q E q e => by
  obtain rfl := p.2.none
  refine is_none ?_
  rw [isNone_is p.1]
  exact q _ _ σ s h S Tr.refl VR.ofBool
theorem o_notNone {a : MV} {K} (h : K (.bool (!a.isNone)) σ) : Op2 X m σ VR (compareOp .IsNot) a .none K KE := fun v u s S p Q E q e => by
  obtain rfl := p.2.none
  refine isNot_none ?_
  rw [isNone_is p.1]
  exact q _ _ σ s h S Tr.refl VR.ofBool
end
end Mine
namespace Mine
theorem Chain.upd {h h' : Heap} {e : Addr} {l : List Addr} {o o' : Obj} {vs vs' : Array Value} (c : Chain h e l) (k : ∀ b ∈ l, b ≠ e → h'.get? b = h.get? b) (ho : h.get? e = some o) (hd : o.data = .fields vs)
    (ho' : h'.get? e = some o') (hd' : o'.data = .fields vs') (h2 : vs'[2]? = vs[2]?) : Chain h' e l := by
  cases c with
  | last g gd g2 =>
    rw [g] at ho; cases ho; rw [gd] at hd; cases hd
    exact .last ho' hd' (h2.trans g2)
  | @next _ e' _ _ l g gd g2 r hn =>
    rw [g] at ho; cases ho; rw [gd] at hd; cases hd
    refine .next ho' hd' (h2.trans g2) ?_ hn
    have : ∀ b o, h.get? b = some o → b ∈ l → h'.get? b = some o := fun b o q m => (k b (.tail _ m) (fun z => hn (z ▸ m))).trans q
    clear g2 k hn
    induction r with
    | last g gd g2 => exact .last (this _ _ g (.head _)) gd g2
    | next g gd g2 _ hn' ih => exact .next (this _ _ g (.head _)) gd g2 (ih fun b o q m => this b o q (.tail _ m)) hn'
theorem Chain.fixed {h : Heap} {e : Addr} {l : List Addr} (c : Chain h e l) : ∀ b ∈ l, ∃ o vs, h.get? b = some o ∧ o.data = .fields vs := by
  induction c with
  | last g gd _ => intro b hm; rw [List.mem_singleton.mp hm]; exact ⟨_, _, g, gd⟩
  | next g gd _ r _ ih =>
    intro b hm
    rcases List.mem_cons.mp hm with z | z
    · subst z; exact ⟨_, _, g, gd⟩
    · exact ih b z
theorem Chain.head {h : Heap} {e : Addr} {l : List Addr} (c : Chain h e l) : e ∈ l := by cases c <;> exact .head _
section
variable {X : Fx} {m m₀ : List (Str × MV)} {σ σ₀ : MHeap} {s s₀ : Shared}
theorem SmF.hndFrom (S₀ : SmF X m₀ σ₀ s₀) {own : List Addr} (w : OwnOk own s₀.heap) {h : Heap} (T : Tr X.fs own σ₀ s₀.heap σ h) {v : Value} (hv : X.hd = some v) :
    ∃ e l, v = .ref e ∧ Chain h e l ∧ ∀ b ∈ l, ∃ o, s₀.heap.get? b = some o := by
  obtain ⟨e, l, q, c⟩ := S₀.hnd v hv
  exact ⟨e, l, q, c.move (T.fixed S₀.toSm w), c.there⟩
theorem exc_turn {own : List Addr} (S₀ : SmF X m₀ σ₀ s₀) (w : OwnOk own s₀.heap) (T : Tr X.fs own σ₀ s₀.heap σ s.heap) (S : SmF X m σ s) {bad : Addr → Prop} {h' : Heap} {tk : Nat}
    (hb : ∀ b, bad b → s₀.heap.get? b = none ∧ ∀ o, s.heap.get? b = some o → ∃ vs, o.data = .fields vs)
    (keep : ∀ b o, s.heap.get? b = some o → ¬ bad b → b ∉ frs X.fs → h'.get? b = some o) (slots : ∀ b o, s.heap.get? b = some o → ¬ bad b → ∃ sl, h'.get? b = some { o with slots := sl }) :
    SmF X m σ { s with heap := h', toks := tk } ∧ Tr X.fs own σ₀ s₀.heap σ h' := by
  have nb : ∀ b o, s₀.heap.get? b = some o → ¬ bad b := fun b o e q => by rw [(hb b q).1] at e; cases e
  refine ⟨S.redo bad (fun b q => ⟨?_, (hb b q).2⟩) (fun v hv => ?_) keep slots, fun b o e n o' f => ?_, fun b o e n o' => ?_, fun b o e => ?_, T.grow⟩
  · cases z : X.C.g.get? b with
    | none => rfl
    | some o => have := S₀.base b o z; rw [(hb b q).1] at this; cases this
  · obtain ⟨e, l, q, c, t⟩ := S₀.hndFrom w T hv
    refine ⟨e, l, q, ?_⟩
    obtain ⟨o, vs, ho, hd, _⟩ : ∃ o vs, s.heap.get? e = some o ∧ o.data = .fields vs ∧ True := by
      cases c with
      | last g gd _ => exact ⟨_, _, g, gd, trivial⟩
      | next g gd _ _ _ => exact ⟨_, _, g, gd, trivial⟩
    have k : ∀ b ∈ l, h'.get? b = s.heap.get? b := fun b hm => by
      obtain ⟨ob, eb⟩ := c.there b hm
      obtain ⟨o', e'⟩ := t b hm
      have hfx : Fixed ob := by
        obtain ⟨o, us, z, y⟩ := c.fixed b hm
        rw [eb] at z; cases z; exact .inr ⟨us, y⟩
      rw [eb]
      exact keep b ob eb (nb b o' e') (S.apart eb hfx).2
    exact c.upd (fun b m _ => k b m) ho hd (by rw [k e c.head]; exact ho) hd rfl
  · obtain ⟨sl, e'⟩ := T.slots b o e n o'
    have e2 := T.keep b o e n o' f
    exact keep b o e2 (nb b o e) f
  · obtain ⟨sl, e'⟩ := T.slots b o e n o'
    obtain ⟨sl', e2⟩ := slots b _ e' (nb b o e)
    exact ⟨sl', e2⟩
  · obtain ⟨o', e'⟩ := T.there b o e
    obtain ⟨sl, e2⟩ := slots b o' e' (nb b o e)
    exact ⟨_, e2⟩
theorem SmF.frameOf (S : SmF X m σ s) : ∃ L e outer, X.env.frame = some L ∧ e.frame = some L ∧ PySem.frameOf X.env = PySem.frameOf e ∧ X.fs = e :: outer ∧ X.A.frames = some (e :: outer) ∧ s.heap.FunFrames X.C.g (e :: outer) := by
  obtain ⟨e, l, hl, q, _⟩ := S.ok.top
  have F := S.funf
  rw [hl] at F
  obtain ⟨_, ⟨L, o, hf, _⟩, _⟩ := id F
  exact ⟨L, e, l, q ▸ hf, hf, by unfold PySem.frameOf; rw [q], hl, S.ok.frames.trans (by rw [hl]), F⟩
theorem nt_entry {own : List Addr} (S₀ : SmF X m₀ σ₀ s₀) (w : OwnOk own s₀.heap) (T : Tr X.fs own σ₀ s₀.heap σ s.heap) (S : SmF X m σ s) {e L : Addr} {oe : Obj} {vs : Array Value} {l : List Addr} {head : Value} {hadNext : Bool} {Q : Unit → Shared → Prop} {E : Value → Shared → Prop}
    (hL : X.env.frame = some L) (h0 : s₀.heap.get? e = none) (he : s.heap.get? e = some oe) (hd : oe.data = .fields vs) (c : Chain s.heap e l) (hs : 1 < vs.size)
    (q : ∀ h', SmF X m σ { s with heap := h' } → Tr X.fs own σ₀ s₀.heap σ h' → ExcTb X true s₀.heap oe.cls (.ref e) h' → Q () { s with heap := h' }) :
    wpAny X.C.M X.A (do let a ← PySem.frameOf X.env; let pl ← entryPlaceOf L hadNext; let b ← EntryCells.newEntry head a .none (rawInt L) .none pl; setField (.ref e) 1 b) Q E s := by
  obtain ⟨L', ee, outer, hf, hfe, hfo, hfs, hfr, hF⟩ := S.frameOf
  rw [hL] at hf; cases hf
  rw [hfo]
  refine wpAny_bind (wpAny_frameOf_fun hfr hF hfe fun h₁ hs₁ => ?_)
  refine wpAny_bind (wpAny_entryPlaceOf fun pl hpl => ?_)
  unfold EntryCells.newEntry newFields
  refine wpAny_bind (wpAny_newObj_type ?_ (hpl.sizeOk5 _ _ _ _ _))
  have ef : e ∉ frs X.fs := (S.apart he (.inr ⟨_, hd⟩)).2
  have hs1' : ∀ b, b ∉ frs X.fs → h₁.get? b = s.heap.get? b := fun b hb => hs₁.2.1 b (by rw [← hfs]; exact hb)
  have he₁ : h₁.get? e = some oe := (hs1' e ef).trans he
  have he₂ := Heap.get?_push_of_some (h := h₁) { cls := .type "traceback", dict := none, data := .fields ([head, .ref L, .none, rawInt L, .none] ++ (if pl.isEmpty then List.replicate 6 Value.none else pl)).toArray } he₁
  refine wpAny_setField he₂ hd hs ?_
  have hTe : h₁.objs.size ≠ e := Nat.ne_of_gt (Heap.lt_size he₁)
  have hT0 : s.heap.get? h₁.objs.size = none := by
    cases z : s.heap.get? h₁.objs.size with
    | none => rfl
    | some o => obtain ⟨sl, y⟩ := hs₁.2.2 _ o z; exact absurd (Heap.lt_size y) (Nat.lt_irrefl _)
  have hd₃ := Obj.data_mapFields hd (·.setIfInBounds 1 (Value.ref h₁.objs.size))
  have he₃ := Heap.get?_update_self (Obj.mapFields (·.setIfInBounds 1 (Value.ref h₁.objs.size))) he₂ (Obj.isFreed_of_fields hd₃)
  have hT₃ := (Heap.get?_update_other (h₁.push { cls := .type "traceback", dict := none, data := .fields ([head, .ref L, .none, rawInt L, .none] ++ (if pl.isEmpty then List.replicate 6 Value.none else pl)).toArray })
    (Obj.mapFields (·.setIfInBounds 1 (Value.ref h₁.objs.size))) (Ne.symm hTe)).trans (Heap.get?_push_size h₁ rfl)
  have kp : ∀ b o, b ≠ e → h₁.get? b = some o → ((h₁.push { cls := .type "traceback", dict := none, data := .fields ([head, .ref L, .none, rawInt L, .none] ++ (if pl.isEmpty then List.replicate 6 Value.none else pl)).toArray }).update e
      (Obj.mapFields (·.setIfInBounds 1 (Value.ref h₁.objs.size)))).get? b = some o := fun b o hbe hb => by
    rw [Heap.get?_update_other _ _ (Ne.symm hbe)]
    exact Heap.get?_push_of_some _ hb
  obtain ⟨S', T'⟩ := exc_turn S₀ w T S (bad := fun b => b = e) (tk := s.toks) (h' := _) (fun b hb => by subst hb; exact ⟨h0, fun o q => by rw [he] at q; cases q; exact ⟨vs, hd⟩⟩)
    (fun b o g nb nf => kp b o nb ((hs1' b nf).trans g)) (fun b o g nb => by obtain ⟨sl, y⟩ := hs₁.2.2 b o g; exact ⟨sl, kp b _ nb y⟩)
  have nT : h₁.objs.size ∉ l := fun q => by obtain ⟨o, y⟩ := c.there _ q; rw [hT0] at y; cases y
  have fx : ∀ b ∈ l, b ∉ frs X.fs := fun b q z => by
    obtain ⟨o, us, ho, hu⟩ := c.fixed b q
    obtain ⟨_, o', ho', hn⟩ := S.frc b z
    rw [ho] at ho'; cases ho'; exact hn (.inr ⟨_, hu⟩)
  refine q _ S' T' ⟨e, _, _, l, rfl, h0, he₃, Obj.cls_mapFields _ _, hd₃, c.upd (fun b hm nb => ?_) he hd he₃ hd₃ (by rw [Array.getElem?_setIfInBounds_ne (by decide)]), .inr ⟨h₁.objs.size, _, _, rawInt L, by simp [hs], ?_, nT, hT₃, rfl, by simp, .inr ⟨L, hL, rfl⟩⟩⟩
  · obtain ⟨o, y⟩ := c.there b hm
    rw [y]
    exact kp b o nb ((hs1' b (fx b hm)).trans y)
  · cases z : s₀.heap.get? h₁.objs.size with
    | none => rfl
    | some o => obtain ⟨o', y⟩ := T.there _ o z; rw [hT0] at y; cases y
theorem nt_note {own : List Addr} (S₀ : SmF X m₀ σ₀ s₀) (w : OwnOk own s₀.heap) (T : Tr X.fs own σ₀ s₀.heap σ s.heap) (S : SmF X m σ s) {x ev : Value} (hx : ExcAt X s₀.heap x ev s.heap) {Q : Unit → Shared → Prop} {E : Value → Shared → Prop}
    (q : ∀ h', SmF X m σ { s with heap := h' } → Tr X.fs own σ₀ s₀.heap σ h' → ExcTb X true s₀.heap x ev h' → Q () { s with heap := h' }) : wpAny X.C.M X.A (noteFrame ev X.env) Q E s := by
  obtain ⟨nt, e, oe, vs, l, rfl, h0, he, rfl, hd, c, hx⟩ := hx
  obtain ⟨L, ee, outer, hf, _⟩ := S.frameOf
  unfold noteFrame
  simp only [hf]
  rcases hx with ⟨h1, rfl⟩ | ⟨T', oT, ts, fl, h1, hT0, hTl, hT, hTd, h3, hfl⟩
  · refine wpAny_bind (wpAny_field he hd h1 ?_)
    rw [if_neg (by decide)]
    exact nt_entry S₀ w T S hf h0 he hd c (Array.getElem?_eq_some_iff.mp h1).1 q
  · refine wpAny_bind (wpAny_field he hd h1 ?_)
    rw [if_pos (show (Value.ref T' != Value.none) = true from by simp)]
    refine wpAny_bind (wpAny_field hT hTd h3 ?_)
    rcases hfl with rfl | ⟨L', hL', rfl⟩
    · rw [if_neg (show ¬ ((Value.none == rawInt L) = true) from by simp [rawInt])]
      have hTe : e ≠ T' := fun z => hTl (z ▸ c.head)
      refine wpAny_bind (wpAny_setField hT hTd (Array.getElem?_eq_some_iff.mp h3).1 ?_)
      have other : ∀ b, b ≠ T' → (s.heap.update T' (Obj.mapFields (·.setIfInBounds 3 Value.none))).get? b = s.heap.get? b := fun b hb => Heap.get?_update_other _ _ (Ne.symm hb)
      have hT' := Heap.get?_update_self (Obj.mapFields (·.setIfInBounds 3 Value.none)) hT (Obj.isFreed_of_fields (Obj.data_mapFields hTd _))
      obtain ⟨S', T2⟩ := exc_turn S₀ w T S (bad := fun b => b = T') (tk := s.toks) (h' := _) (fun b hb => by subst hb; exact ⟨hT0, fun o q => by rw [hT] at q; cases q; exact ⟨ts, hTd⟩⟩)
        (fun b o g nb nf => (other b nb).trans g) (fun b o g nb => ⟨o.slots, (other b nb).trans g⟩)
      exact nt_entry (s := { s with heap := s.heap.update T' (Obj.mapFields (·.setIfInBounds 3 Value.none)) }) S₀ w T2 S' hf h0 ((other e hTe).trans he) hd
        (c.upd (fun b hm _ => other b fun z => hTl (z ▸ hm)) he hd ((other e hTe).trans he) hd rfl) (Array.getElem?_eq_some_iff.mp h1).1 q
    · rw [hf] at hL'; cases hL'
      rw [if_pos (by simp)]
      exact wpAny_pure (q s.heap S T ⟨e, oe, vs, l, rfl, h0, he, rfl, hd, c, .inr ⟨T', oT, ts, _, h1, hT0, hTl, hT, hTd, h3, .inr ⟨L, hf, rfl⟩⟩⟩)
theorem nt_flight {A' : Around} {own : List Addr} (S₀ : SmF X m₀ σ₀ s₀) (w : OwnOk own s₀.heap) (T : Tr X.fs own σ₀ s₀.heap σ s.heap) (S : SmF X m σ s) {x ev : Value} {nt : Bool} (hx : ExcTb X nt s₀.heap x ev s.heap) {fr : Option Addr} (hfr : fr = none ∨ fr = X.env.frame) {Q : Unit → Shared → Prop} {E : Value → Shared → Prop}
    (q : ∀ h', SmF X m σ { s with heap := h' } → Tr X.fs own σ₀ s₀.heap σ h' → (∀ Y : Fx, fr = none ∨ Y = X → ExcTb Y nt s₀.heap x ev h') → Q () { s with heap := h' }) : wpAny X.C.M A' (setFlight ev fr) Q E s := by
  obtain ⟨e, oe, vs, l, rfl, h0, he, rfl, hd, c, hx⟩ := hx
  unfold setFlight
  rcases hx with ⟨h1, rfl⟩ | ⟨T', oT, ts, fl, h1, hT0, hTl, hT, hTd, h3, hfl⟩
  · refine wpAny_bind (wpAny_field he hd h1 ?_)
    rw [if_neg (by decide)]
    exact wpAny_pure (q s.heap S T fun _ _ => ⟨e, oe, vs, l, rfl, h0, he, rfl, hd, c, .inl ⟨h1, rfl⟩⟩)
  · refine wpAny_bind (wpAny_field he hd h1 ?_)
    rw [if_pos (show (Value.ref T' != Value.none) = true from by simp)]
    refine wpAny_setField hT hTd (Array.getElem?_eq_some_iff.mp h3).1 ?_
    have hTe : e ≠ T' := fun z => hTl (z ▸ c.head)
    have other : ∀ v : Value, ∀ b, b ≠ T' → (s.heap.update T' (Obj.mapFields (·.setIfInBounds 3 v))).get? b = s.heap.get? b := fun v b hb => Heap.get?_update_other _ _ (Ne.symm hb)
    have hT' : ∀ v : Value, _ := fun v => Heap.get?_update_self (Obj.mapFields (·.setIfInBounds 3 v)) hT (Obj.isFreed_of_fields (Obj.data_mapFields hTd _))
    obtain ⟨S', T2⟩ := exc_turn S₀ w T S (bad := fun b => b = T') (tk := s.toks) (h' := s.heap.update T' (Obj.mapFields (·.setIfInBounds 3 (fr.elim .none fun f => rawInt f)))) (fun b hb => by subst hb; exact ⟨hT0, fun o q => by rw [hT] at q; cases q; exact ⟨ts, hTd⟩⟩)
      (fun b o g nb nf => (other _ b nb).trans g) (fun b o g nb => ⟨o.slots, (other _ b nb).trans g⟩)
    have h3' := (Array.getElem?_eq_some_iff.mp h3).1
    refine q _ S' T2 fun Y hY => ⟨e, oe, vs, l, rfl, h0, (other _ e hTe).trans he, rfl, hd, c.upd (fun b hm _ => other _ b fun z => hTl (z ▸ hm)) he hd ((other _ e hTe).trans he) hd rfl, .inr ⟨T', _, _, fr.elim .none fun f => rawInt f, h1, hT0, hTl, hT' _, Obj.data_mapFields hTd _, by simp [h3'], ?_⟩⟩
    rcases hfr with rfl | rfl
    · exact .inl rfl
    · obtain ⟨L, ee, outer, hf, _⟩ := S.frameOf
      rcases hY with hY | rfl
      · rw [hf] at hY; cases hY
      · exact .inr ⟨L, hf, by rw [hf]; rfl⟩
theorem nt_leaving {own : List Addr} (S₀ : SmF X m₀ σ₀ s₀) (w : OwnOk own s₀.heap) (T : Tr X.fs own σ₀ s₀.heap σ s.heap) (S : SmF X m σ s) {x ev : Value} (hx : ExcAt X s₀.heap x ev s.heap) {Q : Unit → Shared → Prop} {E : Value → Shared → Prop}
    (q : ∀ h', SmF X m σ { s with heap := h' } → Tr X.fs own σ₀ s₀.heap σ h' → (∀ Y : Fx, ExcTb Y true s₀.heap x ev h') → Q () { s with heap := h' }) : wpAny X.C.M X.A (leaving X.env ev) Q E s := by
  unfold leaving
  refine wpAny_bind (nt_note S₀ w T S hx fun h₁ S₁ T₁ x₁ => ?_)
  exact nt_flight S₀ w T₁ S₁ x₁ (.inl rfl) fun h₂ S₂ T₂ x₂ => q h₂ S₂ T₂ fun Y => x₂ Y (.inl rfl)
end
end Mine
namespace Mine
noncomputable abbrev Loc := List (Str × MV)
inductive FlowM where
  | next | brk | cont
  | ret (v : MV)
noncomputable def FR (h : Heap) : FlowM → Flow → Prop
  | .next, f => f = .next
  | .brk, f => f = .brk
  | .cont, f => f = .cont
  | .ret v, f => ∃ u, f = .ret u ∧ VR h v u
noncomputable def OkL (X : Fx) (σ : MHeap) (h₀ : Heap) {α β : Type} (R : Heap → β → α → Prop) (K : β → Loc → MHeap → Prop) (Q : α → Shared → Prop) : Prop :=
  ∀ a b m' σ' s', K b m' σ' → SmF X m' σ' s' → Tr X.fs X.own σ h₀ σ' s'.heap → R s'.heap b a → Q a s'
noncomputable def ErL (X : Fx) (σ : MHeap) (h₀ : Heap) (KE : Value → Loc → MHeap → Prop) (E : Value → Shared → Prop) : Prop :=
  ∀ e x m' σ' s', KE x m' σ' → SmF X m' σ' s' → Tr X.fs X.own σ h₀ σ' s'.heap → ExcAt X h₀ x e s'.heap → E e s'
section
variable {X : Fx} {σ σ₁ : MHeap} {h₀ h₁ : Heap}
theorem OkL.after {α β : Type} {R : Heap → β → α → Prop} {K : β → Loc → MHeap → Prop} {Q : α → Shared → Prop} (o : OkL X σ h₀ R K Q) (T : Tr X.fs X.own σ h₀ σ₁ h₁) : OkL X σ₁ h₁ R K Q :=
  fun a b m' σ' s' k S T' r => o a b m' σ' s' k S (T.trans T') r
theorem ErL.after {KE : Value → Loc → MHeap → Prop} {E : Value → Shared → Prop} (o : ErL X σ h₀ KE E) (T : Tr X.fs X.own σ h₀ σ₁ h₁) : ErL X σ₁ h₁ KE E :=
  fun e x m' σ' s' k S T' r => o e x m' σ' s' k S (T.trans T') (r.start T.there)
theorem Tr.own {fs : List Env} {own : List Addr} {σ' : MHeap} {h' : Heap} (T : Tr fs [] σ h₀ σ' h') : Tr fs own σ h₀ σ' h' := T.more fun _ q => by cases q
theorem ErL.er {KE : Value → Loc → MHeap → Prop} {E : Value → Shared → Prop} (o : ErL X σ h₀ KE E) (m : Loc) : ErE X m σ h₀ (fun x σ' => KE x m σ') E :=
  fun e x σ' s' k S T r => o e x m σ' s' k S T.own r
end
section
variable {α β : Type}
noncomputable def RunL (X : Fx) (m : Loc) (σ : MHeap) (R : Heap → β → α → Prop) (pre : Heap → Prop) (t : Sem α) (K : β → Loc → MHeap → Prop) (KE : Value → Loc → MHeap → Prop) : Prop :=
  ∀ s, SmF X m σ s → pre s.heap → ∀ (Q : α → Shared → Prop) (E : Value → Shared → Prop), OkL X σ s.heap R K Q → ErL X σ s.heap KE E → wpAny X.C.M X.A t Q E s
end
noncomputable abbrev RunS (X : Fx) (m : Loc) (σ : MHeap) (l : List Stmt) (K : FlowM → Loc → MHeap → Prop) (KE : Value → Loc → MHeap → Prop) : Prop := RunL X m σ FR (fun _ => True) (execs l X.env) K KE
noncomputable abbrev Run1 (X : Fx) (m : Loc) (σ : MHeap) (st : Stmt) (K : FlowM → Loc → MHeap → Prop) (KE : Value → Loc → MHeap → Prop) : Prop := RunL X m σ FR (fun _ => True) (exec st X.env) K KE
section
variable {X : Fx} {m : Loc} {σ : MHeap} {K : FlowM → Loc → MHeap → Prop} {KE : Value → Loc → MHeap → Prop}
theorem SmF.fxL {s : Shared} (S : SmF X m σ s) {σ' : MHeap} {h' : Heap} (T : Tr X.fs X.own σ s.heap σ' h') : ∀ b o, s.heap.get? b = some o → Fixed o → h'.get? b = some o := T.fixed S.toSm S.ownc
theorem RunL.mono {α β : Type} {R : Heap → β → α → Prop} {pre : Heap → Prop} {t : Sem α} {K K' : β → Loc → MHeap → Prop} {KE KE' : Value → Loc → MHeap → Prop} (h : RunL X m σ R pre t K KE) (k : ∀ b m' σ', K b m' σ' → K' b m' σ') (kE : ∀ x m' σ', KE x m' σ' → KE' x m' σ') :
    RunL X m σ R pre t K' KE' := fun s S p Q E q e => h s S p Q E (fun a b m' σ' s' x => q a b m' σ' s' (k b m' σ' x)) (fun ev x m' σ' s' y => e ev x m' σ' s' (kE x m' σ' y))
theorem rs_nil (h : K .next m σ) : RunS X m σ [] K KE := fun s S _ Q E q e => wpAny_execs_nil (q _ _ m σ s h S Tr.refl rfl)
noncomputable def seqK (X : Fx) (rest : List Stmt) (K : FlowM → Loc → MHeap → Prop) (KE : Value → Loc → MHeap → Prop) : FlowM → Loc → MHeap → Prop
  | .next, m', σ' => RunS X m' σ' rest K KE
  | f, m', σ' => K f m' σ'
theorem sk_next {rest} (h : RunS X m σ rest K KE) : seqK X rest K KE .next m σ := h
theorem sk_cont {rest} (h : K .cont m σ) : seqK X rest K KE .cont m σ := h
theorem sk_ret {rest v} (h : K (.ret v) m σ) : seqK X rest K KE (.ret v) m σ := h
theorem rs_cons {st rest} (h : Run1 X m σ st (seqK X rest K KE) KE) : RunS X m σ (st :: rest) K KE := fun s S _ Q E q e =>
  wpAny_execs_cons (h s S trivial _ E (fun f fm m' σ' s' k S' T r => by
    cases fm with
    | next =>
      have : f = .next := r
      subst this
      exact k s' S' trivial Q E (q.after T) (e.after T)
    | brk =>
      have : f = .brk := r
      subst this
      exact q _ .brk m' σ' s' k S' T rfl
    | cont =>
      have : f = .cont := r
      subst this
      exact q _ .cont m' σ' s' k S' T rfl
    | ret v =>
      obtain ⟨u, rfl, r⟩ : ∃ u, f = .ret u ∧ VR s'.heap v u := r
      exact q _ (.ret v) m' σ' s' k S' T ⟨u, rfl, r⟩) e)
theorem r1_If {t b o p} (h : EvT X m σ t (fun c σ₁ => if c = true then RunS X m σ₁ b K KE else RunS X m σ₁ o K KE) (fun x σ' => KE x m σ')) : Run1 X m σ (.If t b o p) K KE := fun s S _ Q E q e =>
  wpAny_If (h s S trivial _ E (fun c c' σ₁ s₁ h₁ S₁ T₁ r₁ => by
    have : c = c' := r₁
    subst this
    cases c with
    | true => exact h₁ s₁ S₁ trivial Q E (q.after T₁.own) (e.after T₁.own)
    | false => exact h₁ s₁ S₁ trivial Q E (q.after T₁.own) (e.after T₁.own)) (e.er m))
theorem r1_Continue {p} (h : K .cont m σ) : Run1 X m σ (.Continue p) K KE := fun s S _ Q E q e => wpAny_Continue (q _ _ m σ s h S Tr.refl rfl)
theorem r1_ret {x p} (h : EvE X m σ x (fun v σ' => K (.ret v) m σ') (fun x σ' => KE x m σ')) : Run1 X m σ (.Return (some x) p) K KE := fun s S _ Q E q e =>
  wpAny_Return_some (h s S trivial _ E (fun a v σ' s' k S' T r => q _ _ m σ' s' k S' T.own ⟨a, rfl, r⟩) (e.er m))
theorem r1_Assert {t msg p} (h : EvT X m σ t (fun c σ₁ => c = true ∧ K .next m σ₁) (fun x σ' => KE x m σ')) : Run1 X m σ (.Assert t msg p) K KE := fun s S _ Q E q e =>
  wpAny_Assert_holds (h s S trivial _ E (fun c c' σ₁ s₁ h₁ S₁ T₁ r₁ => by
    have : c = c' := r₁
    subst this
    exact ⟨h₁.1, q _ _ m σ₁ s₁ h₁.2 S₁ T₁.own rfl⟩) (e.er m))
theorem er_loop {m₀ : Loc} {σ₀ : MHeap} {s₀ : Shared} {E : Value → Shared → Prop} (S₀ : SmF X m₀ σ₀ s₀) (e : ErL X σ₀ s₀.heap KE E) {x : Value} {ev : Value} {m' : Loc} {σ' : MHeap} {s' : Shared} (k : KE x m' σ') (S : SmF X m' σ' s')
    (T : Tr X.fs X.own σ₀ s₀.heap σ' s'.heap) (hx : ExcAt X s₀.heap x ev s'.heap) : notedBy X.C.M X.A X.env (fun e' s'' => cameBackBy X.C.M X.A X.env E e' s'') ev s' := by
  unfold notedBy
  refine nt_note S₀ S₀.ownc T S hx fun h₁ S₁ T₁ x₁ => ?_
  unfold cameBackBy
  obtain ⟨e', oe, vs, l, rfl, h0, he, rfl, hd, c, hh⟩ := id x₁
  rcases hh with ⟨_, q⟩ | ⟨T', oT, ts, fl, h1, _⟩
  · cases q
  · refine wpAny_bind (wpAny_field he hd h1 ?_)
    rw [if_neg (show ¬ ((Value.ref T' == Value.none) = true) from by simp)]
    refine nt_flight (s := { s' with heap := h₁ }) S₀ S₀.ownc T₁ S₁ x₁ (.inr rfl) fun h₂ S₂ T₂ x₂ => ?_
    exact e _ _ m' σ' _ k S₂ T₂ ⟨_, x₂ X (.inr rfl)⟩
noncomputable def whileK (J : Nat → Loc → MHeap → Prop) (n : Nat) (K : FlowM → Loc → MHeap → Prop) : FlowM → Loc → MHeap → Prop
  | .next, m', σ' => ∃ k, k < n ∧ J k m' σ'
  | .cont, m', σ' => ∃ k, k < n ∧ J k m' σ'
  | .brk, m', σ' => K .next m' σ'
  | .ret v, m', σ' => K (.ret v) m' σ'
theorem wk_next {J n} (k : Nat) (h : k < n) (j : J k m σ) : whileK J n K .next m σ := ⟨k, h, j⟩
theorem wk_cont {J n} (k : Nat) (h : k < n) (j : J k m σ) : whileK J n K .cont m σ := ⟨k, h, j⟩
theorem r1_While {t b o p} (J : Nat → Loc → MHeap → Prop) (n : Nat) (h : J n m σ)
    (turn : ∀ n m' σ', J n m' σ' → EvT X m' σ' t (fun c σ₁ => if c = true then RunS X m' σ₁ b (whileK J n K) KE else RunS X m' σ₁ o K KE) (fun x σ' => KE x m' σ')) :
    Run1 X m σ (.While t b o p) K KE := fun s S _ Q E q e => by
  refine wpAny_While (codeAny_whileLoop (fun n s' => ∃ m' σ', J n m' σ' ∧ SmF X m' σ' s' ∧ Tr X.fs X.own σ s.heap σ' s'.heap) ?_ n ⟨m, σ, h, S, Tr.refl⟩)
  rintro n s' ⟨m', σ', hJ, S', T'⟩
  have er : ErL X σ s.heap KE (notedBy X.C.M X.A X.env (fun e' s'' => cameBackBy X.C.M X.A X.env E e' s'')) := fun ev x m₁ σ₁ s₁ k S₁ T₁ hx => er_loop S e k S₁ T₁ hx
  refine turn n m' σ' hJ s' S' trivial _ _ (fun c c' σ₁ s₁ h₁ S₁ T₁ r₁ => ?_) ((er.after T').er m')
  have : c = c' := r₁
  subst this
  cases c with
  | true =>
    refine h₁ s₁ S₁ trivial _ _ (fun f fm m₂ σ₂ s₂ k S₂ T₂ r => ?_) ((er.after T').after T₁.own)
    have T3 := (T'.trans T₁.own).trans T₂
    cases fm with
    | next =>
      have : f = .next := r
      subst this
      obtain ⟨k', lt, j⟩ := k
      exact ⟨k', lt, m₂, σ₂, j, S₂, T3⟩
    | cont =>
      have : f = .cont := r
      subst this
      obtain ⟨k', lt, j⟩ := k
      exact ⟨k', lt, m₂, σ₂, j, S₂, T3⟩
    | brk =>
      have : f = .brk := r
      subst this
      exact q _ .next m₂ σ₂ s₂ k S₂ T3 rfl
    | ret v =>
      obtain ⟨u, rfl, r⟩ : ∃ u, f = .ret u ∧ VR s₂.heap v u := r
      exact q _ (.ret v) m₂ σ₂ s₂ k S₂ T3 ⟨u, rfl, r⟩
  | false => exact h₁ s₁ S₁ trivial _ _ ((OkL.after (fun a b m' σ' s' k S T r => q a b m' σ' s' k S T r) T').after T₁.own) ((er.after T').after T₁.own)
end
end Mine
namespace Mine
theorem Objs.keep {C : Cx} {σ : MHeap} {h h' : Heap} (O : Objs C σ h) (k : ∀ b o, h.get? b = some o → h'.get? b = some o) : Objs C σ h' := by
  have fx : ∀ b o, h.get? b = some o → Fixed o → h'.get? b = some o := fun b o e _ => k b o e
  refine ⟨fun a c x e => k _ _ (O.I a c x e), fun a l e => ?_, fun a l e => ?_, fun a l e => ?_, O.X, fun a ep e => let ⟨d, o, es, ho, hd⟩ := O.E a ep e; ⟨d, o, es, k _ _ ho, hd⟩⟩
  · obtain ⟨vs, n, g, r⟩ := O.L a l e
    exact ⟨vs, n, k _ _ g, r.move fx⟩
  · obtain ⟨kvs, ⟨o, es, ep, ho, r⟩, g⟩ := O.D a l e
    exact ⟨kvs, ⟨o, es, ep, k _ _ ho, r⟩, g.move fx⟩
  · obtain ⟨kvs, ⟨o, es, ep, ho, r⟩, g⟩ := O.S a l e
    exact ⟨kvs, ⟨o, es, ep, k _ _ ho, r⟩, g.move fx⟩
theorem SmF.stepX {X : Fx} {m : Loc} {σ σ' : MHeap} {s s' : Shared} (S : SmF X m σ s) (T : Tr X.fs [] σ s.heap σ' s'.heap) (O : Objs X.C σ' s'.heap) (hg : s'.gens = #[]) (ho : s'.os = X.C.os) : SmF X m σ' s' :=
  let z := S.stepE (tk := s'.toks) T O
  { base := z.base, sep := z.sep, objs := z.objs, funf := z.funf, frc := z.frc, gens := hg, os := ho, hnd := z.hnd, ok := z.ok, frame := z.frame, sepo := z.sepo, ownc := z.ownc }
noncomputable abbrev Fx.into (X : Fx) (env : Env) : Fx := ⟨X.C, X.A.deeper env, env :: X.fs, env⟩
theorem Room.deeper {A : Around} {n : Nat} (h : Room A (n + 1)) (env : Env) : Room (A.deeper env) n := by
  obtain ⟨a, b⟩ := h
  refine ⟨?_, ?_⟩
  · show A.depth + 1 + n ≤ 800
    omega
  · show A.units + 3 + 12 * n ≤ 9000
    omega
theorem Room.less {A : Around} {n k : Nat} (h : Room A n) (e : k ≤ n) : Room A k := ⟨by have := h.1; omega, by have := h.2; omega⟩
theorem Room.depth {A : Around} {n : Nat} (h : Room A n) : A.depth < recursionLimit := by
  have : recursionLimit = 1000 := rfl
  have := h.1
  omega
theorem KVs.lookup {h : Heap} : ∀ {m : Loc} {binds : List (Str × Value)}, KVs h m binds → (m.map (·.1)).Nodup → ∀ {x v}, (x, v) ∈ m → ∃ v', binds.lookup x = some v' ∧ VR h v v'
  | [], _, _, _, x, v, hm => by cases hm
  | (y, w) :: r, _, e, nd, x, v, hm => by
    obtain ⟨u, l', rfl, hu, hr⟩ := e
    rw [List.lookup_cons]
    rcases List.mem_cons.mp hm with q | q
    · cases q; simp; exact hu
    · have : x ≠ y := fun z => by
        subst z
        simp only [List.map_cons, List.nodup_cons] at nd
        exact nd.1 (List.mem_map.mpr ⟨(x, v), q, rfl⟩)
      rw [show (x == y) = false from by simpa using this]
      exact KVs.lookup hr (by simp only [List.map_cons, List.nodup_cons] at nd; exact nd.2) q
theorem KVs.keys {h : Heap} {α : Type} : ∀ {m : List (α × MV)} {binds : List (α × Value)}, KVs h m binds → binds.map (·.1) = m.map (·.1)
  | [], _, e => by cases e; rfl
  | (y, w) :: r, _, e => by
    obtain ⟨u, l', rfl, hu, hr⟩ := e
    simp [KVs.keys hr]
theorem lookup_reverse {l : List (Str × Value)} (nd : (l.map (·.1)).Nodup) (x : Str) : l.reverse.lookup x = l.lookup x := by
  induction l with
  | nil => rfl
  | cons y r ih =>
    simp only [List.map_cons, List.nodup_cons] at nd
    rw [List.reverse_cons, List.lookup_append, ih nd.2, List.lookup_cons]
    obtain ⟨k, v⟩ := y
    simp only [List.lookup_cons, List.lookup_nil]
    by_cases e : x = k
    · subst e
      have : r.lookup x = none := by
        rw [List.lookup_eq_none_iff]
        intro p hp
        have : x ≠ p.1 := fun z => nd.1 (List.mem_map.mpr ⟨p, hp, z.symm⟩)
        simpa using this
      rw [this]; simp
    · rw [show (x == k) = false from by simpa using e]; simp
structure FnOk (C : Cx) (a : Addr) (fd : FuncData) (body : List Stmt) : Prop where
  at_ : ∃ o, C.K.lookup a = some o ∧ o.data = .func fd
  body : fd.body = .stmts body
  code : codeIn C.K fd.code fd.qualname = true
  clo : fd.closure = []
  gl : fd.globals = mainGlobals
  bl : fd.builtins = builtinsNs
  co : fd.scope.isCoroutine = false
  gen : fd.scope.isGenerator = false
  kind : fd.scope.kind = .function
section
variable {X : Fx} {m : Loc} {σ : MHeap} {K : MV → MHeap → Prop} {KE : Value → MHeap → Prop} {pre : Heap → Prop}
noncomputable def retOf : FlowM → MV
  | .ret v => v
  | _ => .none
theorem SmF.into {s : Shared} (S : SmF X m σ s) {env : Env} {h₀ : Heap} {tk : Nat} {m₀ : Loc} (hL : env.frame = some s.heap.objs.size) (hfl : env.locals = s.heap.objs.size) (hk : env.scope.kind = .function) (hg : env.globals = mainGlobals) (hb : env.builtins = builtinsNs)
    (hgen : env.scope.isGenerator = false) (hco : env.scope.isCoroutine = false) (keep : ∀ b o, s.heap.get? b = some o → h₀.get? b = some o) (hns : ∃ f, h₀.Ns env.locals f) (F : FrameR env m₀ h₀)
    (hc : (env.cells.map (·.2)).Nodup) (hcl : env.locals ∉ env.cells.map (·.2)) (hown : ∀ b ∈ env.cells.map (·.2), s.heap.get? b = none ∧ ∃ o, h₀.get? b = some o ∧ ¬ Fixed o) : SmF (X.into env) m₀ σ { s with heap := h₀, toks := tk } := by
  have fresh : s.heap.get? s.heap.objs.size = none := by
    cases z : s.heap.get? s.heap.objs.size with
    | none => rfl
    | some o => exact absurd (Heap.lt_size z) (Nat.lt_irrefl _)
  have nd : ∀ b, s.heap.get? b = none → X.C.g.get? b = none ∧ ¬ σ.Dom b := fun b hb => by
    refine ⟨?_, fun d => ?_⟩
    · cases z : X.C.g.get? b with
      | none => rfl
      | some o => have := S.base b o z; rw [hb] at this; cases this
    · obtain ⟨o, e⟩ := S.objs.there d
      rw [hb] at e; cases e
  have hoL : ∃ o, h₀.get? s.heap.objs.size = some o ∧ ¬ Fixed o := by
    obtain ⟨f, o, es, ep, ho, hd, _⟩ := hns
    rw [hfl] at ho
    refine ⟨o, ho, ?_⟩
    rintro (⟨_, x, n, q⟩ | ⟨x, q⟩) <;> rw [hd] at q <;> cases q
  have nf : ∀ o, ¬ Fixed o → ∀ vs, o.data ≠ .fields vs := fun o n vs q => n (.inr ⟨vs, q⟩)
  refine { base := fun b o e => keep b o (S.base b o e), sep := S.sep, objs := S.objs.keep keep, funf := ?_, frc := ?_, gens := S.gens, os := S.os, hnd := fun v hv => ?_, ok := ?_, frame := F, sepo := fun b hb => ?_, ownc := fun b hb => ?_ }
  · obtain ⟨o, ho, hn⟩ := hoL
    refine ⟨by rw [hk]; nofun, ⟨_, o, hL, (nd _ fresh).1, ho, nf o hn⟩, funFrames_re S.funf fun b hb => ?_⟩
    obtain ⟨_, o, e, n⟩ := S.frc b hb
    exact ⟨o, keep b o e, n⟩
  · intro b hb
    have : frs (env :: X.fs) = s.heap.objs.size :: frs X.fs := by unfold frs; rw [List.filterMap_cons, hL]
    rw [this] at hb
    rcases List.mem_cons.mp hb with z | z
    · subst z; exact ⟨(nd _ fresh).2, hoL⟩
    · obtain ⟨d, o, e, n⟩ := S.frc b z
      exact ⟨d, o, keep b o e, n⟩
  · obtain ⟨e, l, q, c⟩ := S.hnd v hv
    exact ⟨e, l, q, c.move fun b o e _ => keep b o e⟩
  · exact ⟨Around.frames_deeper S.ok.frames, ⟨env, X.fs, rfl, rfl, hgen, hco, hb, hg⟩, hk, hg, hb, S.ok.nb, hc, hcl⟩
  · rcases List.mem_cons.mp hb with z | z
    · subst z; rw [hfl]; exact nd _ fresh
    · exact nd _ (hown b z).1
  · rcases List.mem_cons.mp hb with z | z
    · subst z; rw [hfl]; exact hoL
    · exact (hown b z).2
theorem Tr.outof {s : Shared} {env : Env} {h₀ h' : Heap} {σ' : MHeap} (hL : env.frame = some s.heap.objs.size) (hfl : env.locals = s.heap.objs.size) (keep : ∀ b o, s.heap.get? b = some o → h₀.get? b = some o)
    (hown : ∀ b ∈ env.cells.map (·.2), s.heap.get? b = none) (T : Tr (env :: X.fs) (ownOf env) σ h₀ σ' h') : Tr X.fs [] σ s.heap σ' h' := by
  have no : ∀ b o, s.heap.get? b = some o → b ∉ ownOf env := fun b o e q => by
    rcases List.mem_cons.mp q with z | z
    · rw [z, hfl] at e; exact absurd (Heap.lt_size e) (Nat.lt_irrefl _)
    · rw [hown b z] at e; cases e
  refine ⟨fun b o e n _ f => T.keep b o (keep b o e) n (no b o e) fun q => ?_, fun b o e n _ => T.slots b o (keep b o e) n (no b o e), fun b o e => T.there b o (keep b o e), fun b d => ?_⟩
  · have : frs (env :: X.fs) = s.heap.objs.size :: frs X.fs := by unfold frs; rw [List.filterMap_cons, hL]
    rw [this] at q
    rcases List.mem_cons.mp q with z | z
    · rw [z] at e; exact absurd (Heap.lt_size e) (Nat.lt_irrefl _)
    · exact f z
  · rcases T.grow b d with d | d
    · exact .inl d
    · right
      cases z : s.heap.get? b with
      | none => rfl
      | some o => rw [keep b o z] at d; cases d
noncomputable def RunC (X : Fx) (m : Loc) (σ : MHeap) (pre : Heap → Prop) (c : Code) (K : MV → MHeap → Prop) (KE : Value → MHeap → Prop) : Prop :=
  ∀ s, SmF X m σ s → pre s.heap → ∀ (R : Result → Shared → Prop), OkE X m σ s.heap VR K (fun v s' => R (.ok (.ret v)) s') → ErE X m σ s.heap KE (fun e s' => R (.error e) s') → codeAny X.C.M X.A c R s
theorem RunC.call {f : Value} {vals : List Value} {kw : List (Str × Value)} (h : RunC X m σ pre (.call f ⟨vals, kw⟩) K KE) : RunE X m σ VR pre (PySem.call f vals kw) K KE := fun s S p Q E q e => wpAny_call (h s S p _ q e)
noncomputable abbrev Fx.in1 (X : Fx) : Fx := { X with A := X.A.in1 }
theorem SmF.in1 {s : Shared} (S : SmF X m σ s) : SmF X.in1 m σ s := { toSm := S.toSm, ok := { frames := S.ok.frames, top := S.ok.top, fn := S.ok.fn, gl := S.ok.gl, bl := S.ok.bl, nb := S.ok.nb, cellsApart := S.ok.cellsApart, localsApart := S.ok.localsApart }, frame := S.frame, sepo := S.sepo, ownc := S.ownc }
theorem SmF.out1 {s : Shared} (S : SmF X.in1 m σ s) : SmF X m σ s := { toSm := S.toSm, ok := { frames := S.ok.frames, top := S.ok.top, fn := S.ok.fn, gl := S.ok.gl, bl := S.ok.bl, nb := S.ok.nb, cellsApart := S.ok.cellsApart, localsApart := S.ok.localsApart }, frame := S.frame, sepo := S.sepo, ownc := S.ownc }
theorem call_fnC {a : Addr} {fd : FuncData} {body : List Stmt} {vals : List Value} {kw : List (Str × Value)} {binds : List (Str × Value)} {m₀ : Loc} (F : FnOk X.C a fd body) (hroom : X.A.depth < recursionLimit)
    (hcell : ∀ x ∈ fd.scope.names, x.2 ≠ .cell) (hnm : ∀ x ∈ m₀.map (·.1), fd.scope.names.lookup x = some .local ∧ okName x = true) (hnd : (m₀.map (·.1)).Nodup)
    (hbind : ∀ s : Shared, X.C.K.In s.heap → BindsTo s fd ⟨vals, kw⟩ binds) (hm : ∀ h, pre h → KVs h m₀ binds)
    (h : ∀ L, RunS (X.into (callEnv fd L a)) m₀ σ body (fun f _ σ' => K (retOf f) σ') (fun x _ σ' => KE x σ')) : RunC X m σ pre (.call (.ref a) ⟨vals, kw⟩) K KE := fun s S p R q e => by
  obtain ⟨o, ho, hd⟩ := F.at_
  have hkv := hm _ p
  have hkeys := hkv.keys
  refine codeAny_call_def hroom (S.K _ _ ho) hd S.lim (codeRec_of S.K F.code) F.body (hbind s S.K) hcell (fun x hx => ?_) (fun h₀ hns keep => ?_) F.co F.gen F.kind
  · exact (hnm x.1 (by rw [← hkeys]; exact List.mem_map_of_mem hx)).1
  have nocell : ∀ x, fd.scope.names.lookup x ≠ some .cell := fun x => by
    have key : ∀ l : List (Str × NameKind), l.lookup x = some NameKind.cell → ∃ y ∈ l, y.2 = NameKind.cell := by
      intro l
      induction l with
      | nil => intro z; cases z
      | cons y r ih =>
        intro z
        rw [List.lookup_cons] at z
        split at z
        · exact ⟨y, .head _, Option.some.inj z⟩
        · obtain ⟨y', h1, h2⟩ := ih z; exact ⟨y', .tail _ h1, h2⟩
    intro this
    obtain ⟨y, hy, hy'⟩ := key _ this
    exact hcell y hy hy'
  have hko : ∀ x, (callEnv fd s.heap.objs.size a).kindOf x = fd.scope.names.lookup x := fun _ => rfl
  have FR₁ : FrameR (callEnv fd s.heap.objs.size a) m₀ h₀ := by
    refine ⟨⟨_, hns, fun x v hx _ => ?_⟩, fun x v hx hk => ?_, fun x hk => ?_, fun x v hx => ⟨(hnm x (List.mem_map_of_mem (f := (·.1)) hx)).2, .inl (hnm x (List.mem_map_of_mem (f := (·.1)) hx)).1⟩, hnd⟩
    · show ∃ v', binds.reverse.lookup x = some v' ∧ _
      rw [lookup_reverse (by rw [hkeys]; exact hnd)]
      obtain ⟨v', h1, h2⟩ := hkv.lookup hnd hx
      exact ⟨v', h1, h2.move fun b o e _ => keep b o e⟩
    · rw [hko, (hnm x (List.mem_map_of_mem (f := (·.1)) hx)).1] at hk
      rcases hk with hk | hk <;> cases hk
    · exact absurd hk (nocell x)
  have hclo : (callEnv fd s.heap.objs.size a).cells = [] := F.clo
  have S₁ : SmF (X.into (callEnv fd s.heap.objs.size a)) m₀ σ { s with heap := h₀, toks := s.toks + binds.length } :=
    S.into rfl rfl F.kind F.gl F.bl F.gen F.co keep ⟨_, hns⟩ FR₁ (by rw [hclo]; exact .nil) (by rw [hclo]; simp) (by rw [hclo]; simp)
  have out : ∀ {σ' : MHeap} {h' : Heap}, Tr (callEnv fd s.heap.objs.size a :: X.fs) (ownOf (callEnv fd s.heap.objs.size a)) σ h₀ σ' h' → Tr X.fs [] σ s.heap σ' h' := fun T => T.outof rfl rfl keep (by rw [hclo]; simp)
  refine h _ _ S₁ trivial _ _ (fun f fm m' σ' s' k S' T r => ?_) (fun ev x m' σ' s' k S' T hx => ?_)
  · have T' := out T
    refine q _ _ σ' s' k (S.stepX T' S'.objs S'.gens S'.os) T' ?_
    cases fm with
    | next =>
      have : f = .next := r
      subst this; exact VR.ofNone
    | brk =>
      have : f = .brk := r
      subst this; exact VR.ofNone
    | cont =>
      have : f = .cont := r
      subst this; exact VR.ofNone
    | ret v =>
      obtain ⟨u, rfl, r⟩ : ∃ u, f = .ret u ∧ VR s'.heap v u := r
      exact r
  · refine nt_leaving S₁ S₁.ownc T S' hx fun h₂ S₂ T₂ x₂ => ?_
    have T' := out T₂
    exact e _ x σ' _ k (S.stepX T' S₂.objs S₂.gens S₂.os) T' ⟨_, (x₂ X).start fun b o z => ⟨o, keep b o z⟩⟩
end
end Mine
namespace Mine
set_option linter.unusedSectionVars false
section
variable {α : Type} [DecidableEq α]
noncomputable def atK (l : List (α × MV)) (k : α) : Option MV := (l.find? fun p => p.1 = k).map (·.2)
noncomputable def putK (l : List (α × MV)) (k : α) (v : MV) : List (α × MV) := if l.any (fun p => p.1 = k) then l.map (fun p => if p.1 = k then (p.1, v) else p) else l ++ [(k, v)]
theorem KVs.atK {h : Heap} : ∀ {l : List (α × MV)} {kvs : List (α × Value)}, KVs h l kvs → ∀ k, match Mine.atK l k with | none => valueAt kvs k = none | some v => ∃ u, valueAt kvs k = some u ∧ VR h v u
  | [], _, e, k => by cases e; rfl
  | (x, m) :: r, _, e, k => by
    obtain ⟨v, l', rfl, hv, hr⟩ := e
    have ih := KVs.atK hr k
    unfold Mine.atK valueAt at ih ⊢
    rw [List.find?_cons, List.find?_cons]
    by_cases q : x = k
    · rw [decide_eq_true q]; exact ⟨v, rfl, hv⟩
    · rw [decide_eq_false q]; exact ih
theorem KVs.someAt {h : Heap} {l : List (α × MV)} {kvs : List (α × Value)} (e : KVs h l kvs) {k : α} {v : MV} (q : Mine.atK l k = some v) : ∃ u, valueAt kvs k = some u ∧ VR h v u := by
  have := e.atK k; rw [q] at this; exact this
theorem KVs.noneAt {h : Heap} {l : List (α × MV)} {kvs : List (α × Value)} (e : KVs h l kvs) {k : α} (q : Mine.atK l k = none) : valueAt kvs k = none := by
  have := e.atK k; rw [q] at this; exact this
theorem KVs.length {h : Heap} : ∀ {l : List (α × MV)} {kvs : List (α × Value)}, KVs h l kvs → kvs.length = l.length
  | [], _, e => by cases e; rfl
  | (x, m) :: r, _, e => by
    obtain ⟨v, l', rfl, hv, hr⟩ := e
    simp [KVs.length hr]
theorem KVs.app {h : Heap} : ∀ {l l₁ : List (α × MV)} {kvs kvs₁ : List (α × Value)}, KVs h l kvs → KVs h l₁ kvs₁ → KVs h (l ++ l₁) (kvs ++ kvs₁)
  | [], _, _, _, e, e' => by cases e; exact e'
  | (x, m) :: r, _, _, _, e, e' => by
    obtain ⟨v, l', rfl, hv, hr⟩ := e
    exact ⟨v, _, rfl, hv, KVs.app hr e'⟩
theorem KVs.mapPut {h : Heap} {k : α} {v : MV} {u : Value} (hu : VR h v u) : ∀ {l : List (α × MV)} {kvs : List (α × Value)}, KVs h l kvs → KVs h (l.map fun p => if p.1 = k then (p.1, v) else p) (kvs.map fun p => if p.1 = k then (p.1, u) else p)
  | [], _, e => by cases e; rfl
  | (x, m) :: r, _, e => by
    obtain ⟨w, l', rfl, hw, hr⟩ := e
    rw [List.map_cons, List.map_cons]
    by_cases q : x = k
    · rw [if_pos q, if_pos q]; exact ⟨u, _, rfl, hu, KVs.mapPut hu hr⟩
    · rw [if_neg q, if_neg q]; exact ⟨w, _, rfl, hw, KVs.mapPut hu hr⟩
theorem KVs.any {h : Heap} (k : α) : ∀ {l : List (α × MV)} {kvs : List (α × Value)}, KVs h l kvs → (kvs.any fun p => decide (p.1 = k)) = l.any fun p => decide (p.1 = k)
  | [], _, e => by cases e; rfl
  | (x, m) :: r, _, e => by
    obtain ⟨w, l', rfl, hw, hr⟩ := e
    rw [List.any_cons, List.any_cons, KVs.any k hr]
theorem KVs.put {h : Heap} {l : List (α × MV)} {kvs : List (α × Value)} (e : KVs h l kvs) (k : α) {v : MV} {u : Value} (hu : VR h v u) : KVs h (putK l k v) (stored kvs k u) := by
  unfold putK stored
  rw [e.any k]
  split
  · exact KVs.mapPut hu e
  · exact e.app ⟨u, [], rfl, hu, rfl⟩
end
theorem isStrOf_eq (x : Str) (v : Value) : Value.isStrOf x v = v.isStr x := by cases v <;> rfl
theorem lookIn_of {prog : Program} {w : World} {o : Obj} {es : Array DictEntry} {ep : Nat} {kvs : List (Str × Value)} (hd : o.data = .dict es ep) (hk : KeysOf (strKind prog w) es) (hp : Pairs (strKind prog w) es.toList kvs) (x : Str) : lookIn x o = some (valueAt kvs x) := by
  unfold lookIn
  rw [hd]
  dsimp only
  have e := hp.find x
  have hf : (es.toList.find? fun e => (strKind prog w).is x e.key) = es.toList.find? fun e => e.key.isStr x := by
    congr 1; funext en; exact isStrOf_eq x en.key
  rw [hf] at e
  cases q : es.toList.find? fun e => e.key.isStr x with
  | some en => rw [q] at e; rw [← e]; rfl
  | none =>
    rw [q] at e
    rw [← e]
    have : es.toList.any (·.refKey) = false := by
      rw [List.any_eq_false]
      intro en hen
      obtain ⟨k, h1, _⟩ := hk en (Array.mem_toList_iff.mp hen)
      obtain ⟨t, h2⟩ := Value.isStrOf_shape h1
      simp [DictEntry.refKey, h2]
    simp only [this]
    rfl
theorem putName_of {prog : Program} {w : World} {h : Heap} {d : Addr} {o : Obj} {kvs : List (Str × Value)} {x : Str} {t : Tok} {v : Value} (ho : h.get? d = some o) (D : h.DictOf (strKind prog w) d kvs) :
    (h.update d (Obj.putName x (PyData.keyHash w.params x) (.str x t) v)).DictOf (strKind prog w) d (stored kvs x v) ∧ (kvs.length ≤ 1000 → (Obj.putName x (PyData.keyHash w.params x) (.str x t) v o).data.pastItsLine = none) := by
  obtain ⟨o', es, ep, ho', hc, hd, hk, hp, hn⟩ := D
  rw [ho] at ho'; cases ho'
  obtain ⟨oc, odi, oda, osl⟩ := o
  dsimp only at hd
  subst hd
  have hx : (strKind prog w).is x (.str x t) = true := by show (x == x) = true; simp
  have hash : (strKind prog w).hash x = PyData.keyHash w.params x := rfl
  have hif : ∀ e : DictEntry, (strKind prog w).is x e.key = e.key.isStr x := fun e => isStrOf_eq x e.key
  have hidx : (es.findIdx? fun e => e.key.isStr x) = kvs.findIdx? fun kv => decide (kv.1 = x) := by
    rw [← hp.findIdx x]
    obtain ⟨l⟩ := es
    rw [List.findIdx?_toArray]
    congr 1
    funext e; exact (hif e).symm
  have hlen : es.size = kvs.length := by have := hp.length; simpa using this
  have hpn : Obj.putName x (PyData.keyHash w.params x) (.str x t) v ⟨oc, odi, .dict es ep, osl⟩ = (match es.findIdx? (·.key.isStr x) with
    | some i => ⟨oc, odi, .dict (es.modify i fun e => { e with val := v }) ep, osl⟩
    | none => ⟨oc, odi, .dict (es.push ⟨PyData.keyHash w.params x, .str x t, v⟩) (ep + 1), osl⟩) := by
    rw [Obj.putName_eq]; rfl
  cases hi : es.findIdx? fun e => e.key.isStr x with
  | some i =>
    rw [hi] at hpn
    refine ⟨⟨_, es.modify i fun e => { e with val := v }, ep, Heap.get?_update_self _ ho (by rw [hpn]; rfl), ?_, by rw [hpn], hk.modify _ _, ?_, ?_⟩, fun hz => ?_⟩
    · rw [hpn]; exact hc
    · rw [stored, if_pos (any_of_findIdx_some (hidx ▸ hi))]
      have hl : (es.toList.findIdx? fun e => (strKind prog w).is x e.key) = some i := by
        rw [hp.findIdx x, ← hidx]; exact hi
      have := hp.modify hn hl v
      obtain ⟨l⟩ := es
      simpa using this
    · rw [stored, if_pos (any_of_findIdx_some (hidx ▸ hi)), keys_map_store]; exact hn
    · rw [hpn]; exact pastItsLine_dict (by rw [Array.size_modify, sizeLine_eq]; omega)
  | none =>
    rw [hi] at hpn
    have hnot : x ∉ kvs.map (·.1) := not_mem_of_findIdx_none (hidx ▸ hi)
    have hany : ¬ (kvs.any fun kv => decide (kv.1 = x)) = true := by
      rw [List.any_eq_true]; rintro ⟨kv, hkv, he⟩
      exact hnot (List.mem_map.mpr ⟨kv, hkv, of_decide_eq_true he⟩)
    refine ⟨⟨_, es.push ⟨PyData.keyHash w.params x, .str x t, v⟩, ep + 1, Heap.get?_update_self _ ho (by rw [hpn]; rfl), ?_, by rw [hpn], ?_, ?_, ?_⟩, fun hz => ?_⟩
    · rw [hpn]; exact hc
    · rw [← hash]; exact hk.push hx v
    · rw [stored, if_neg hany]
      have := hp.append hx (PyData.keyHash w.params x) v
      obtain ⟨l⟩ := es
      simpa using this
    · rw [stored, if_neg hany, List.map_append, List.nodup_append]
      refine ⟨hn, by simp, ?_⟩
      intro a ha b hb
      simp only [List.map_cons, List.map_nil, List.mem_singleton] at hb
      subst hb
      exact fun e => hnot (e ▸ ha)
    · rw [hpn]; exact pastItsLine_dict (by rw [Array.size_push, sizeLine_eq]; omega)
section
variable {X : Fx} {m : Loc} {σ : MHeap} {KE : Value → MHeap → Prop}
theorem SmF.inst {s : Shared} (S : SmF X m σ s) {x C d : Addr} {l : List (Str × MV)} (hi : σ.I x = some (C, d)) (hs : σ.S d = some l) :
    ∃ od kvs, InstAt s.heap x (instObj C d) C (some od) ∧ KVs s.heap l kvs ∧ (∀ name, lookIn name od = some (valueAt kvs name)) ∧ s.heap.get? d = some od ∧ s.heap.DictOf (strKind X.C.prog X.C.w) d kvs := by
  obtain ⟨kvs, D, hk⟩ := S.objs.S d l hs
  obtain ⟨o, es, ep, ho, hc, hd, hks, hp, hn⟩ := id D
  exact ⟨o, kvs, ⟨S.objs.I x C d hi, rfl, rfl, ho⟩, hk, lookIn_of hd hks hp, ho, D⟩
noncomputable def MV.plain : MV → Bool
  | .raw _ => false
  | _ => true
theorem MV.plain_handed {v : MV} (h : v.plain = true) {hp : Heap} {u : Value} (r : VR hp v u) : handedIn u = true := by
  cases v with
  | none => obtain rfl := r.none; rfl
  | bool => obtain rfl := r.bool; rfl
  | int => obtain ⟨t, rfl⟩ := r.int; rfl
  | str => obtain ⟨t, rfl⟩ := r.str; rfl
  | ref => obtain rfl := r.ref; rfl
  | tup => obtain ⟨a, vs, rfl, _⟩ := r.tup; rfl
  | raw => cases h
noncomputable def ownIn (K : Frag) (C : Addr) (name : Str) : Bool := plainGet K C name && (hasDictIn K C && findIn K (.ref C) name == some none)
theorem ga_own {x C d : Addr} {l : List (Str × MV)} {name : Str} {v : MV} {ex : Bool} {K} (hi : σ.I x = some (C, d)) (hs : σ.S d = some l) (hc : ownIn X.C.K C name = true) (hv : atK l name = some v) (hp : v.plain = true) (h : K v σ) :
    Op1 X m σ VR (fun o => getAttr o name ex) (.ref x) K KE := fun o s S p Q E q e => by
  obtain rfl := VR.ref p
  obtain ⟨od, kvs, I, hk, hl, _⟩ := S.inst hi hs
  obtain ⟨u, hu, r⟩ := hk.someAt hv
  obtain ⟨c1, c2⟩ := Bool.and_eq_true_iff.mp hc
  obtain ⟨c2, c3⟩ := Bool.and_eq_true_iff.mp c2
  exact get_value S.K I (plainGet_of c1).1 (findObj_own c2 (beq_iff_eq.mp c3) rfl ((hl name).trans (by rw [hu]))) (MV.plain_handed hp r) (q _ _ σ _ h (S.tok _) Tr.refl r)
noncomputable def setIn (K : Frag) (C : Addr) (name : Str) : Bool := findIn K (.ref C) "__setattr__" == some (some (.builtin "object.__setattr__")) && (plainOver K C && (takerIn K C name == some none && (clsIn K C).any (·.hasDict)))
theorem setIn_of {K : Frag} {C : Addr} {name : Str} (h : setIn K C name = true) : findIn K (.ref C) "__setattr__" = some (some (.builtin "object.__setattr__")) ∧ plainOver K C = true ∧ takerIn K C name = some none ∧ (clsIn K C).any (·.hasDict) = true := by
  obtain ⟨a, b⟩ := Bool.and_eq_true_iff.mp h
  obtain ⟨b, c⟩ := Bool.and_eq_true_iff.mp b
  obtain ⟨c, d⟩ := Bool.and_eq_true_iff.mp c
  exact ⟨beq_iff_eq.mp a, b, beq_iff_eq.mp c, d⟩
theorem Tr.at {fs : List Env} {h h' : Heap} {σ' : MHeap} {d : Addr} (dm : σ.Dom d) (k : ∀ b o, b ≠ d → h.get? b = some o → h'.get? b = some o) (hd : ∃ o, h'.get? d = some o) (so : SameOff d σ σ') : Tr fs [] σ h σ' h' :=
  ⟨fun b o e n _ _ => k b o (fun q => n (q ▸ dm)) e, fun b o e n _ => ⟨o.slots, k b o (fun q => n (q ▸ dm)) e⟩, fun b o e => by
    by_cases q : b = d
    · subst q; exact hd
    · exact ⟨o, k b o q e⟩, fun b q => by
    by_cases z : b = d
    · subst z; exact .inl dm
    · exact .inl (so.dom z q)⟩
theorem sa_own {x C d : Addr} {l : List (Str × MV)} {name : Str} {v : MV} {K} (hi : σ.I x = some (C, d)) (hs : σ.S d = some l) (hc : setIn X.C.K C name = true) (hl : l.length ≤ 1000) (h : K () (σ.setS d (putK l name v))) :
    ∀ o u, RunE X m σ UR (fun h => VR h (.ref x) o ∧ VR h v u) (setAttr o name u) K KE := fun o u s S p Q E q e => by
  obtain rfl := VR.ref p.1
  obtain ⟨od, kvs, I, hk, hlk, hod, D⟩ := S.inst hi hs
  obtain ⟨c1, c2, c3, c4⟩ := setIn_of hc
  obtain ⟨cd, hcd, hd'⟩ := any_some c4
  have hx := I.at_
  obtain ⟨o2, es, ep, ho2, hec, hdd, hks, hp, hn⟩ := id D
  have := hod.symm.trans ho2; cases this
  obtain ⟨D', L'⟩ := putName_of (x := name) (t := s.toks + 1) (v := u) hod D
  refine set_plain S.K I c1 (osa_open (s := { s with toks := s.toks + 1 }) S.K I c2 c3 fun b => ?_)
  have hL : lookIn name od = some (valueAt kvs name) := hlk name
  refine wpAny_bind (wpAny_pure (wpAny_bind (wpAny_bind (wpAny_loadPart hx (wpAny_bind ((looks_clsIn (S.tok (s.toks + 1)).K hcd).here ?_))))))
  rw [hd']
  refine wpAny_pure (a := some d) (wpAny_bind (wpAny_pure (wpAny_bind ?_)))
  unfold nsSet
  refine wpAny_bind (wpAny_bind (wpAny_askSetting (wpAny_pure (wpAny_bind (wpAny_mkText (wpAny_bind (wpAny_loadPart hod ?_)))))))
  rw [hdd]
  dsimp only
  have c : (!es.any (·.key.isStr name) && es.any (·.refKey)) = false := by
    have : es.any (·.refKey) = false := by
      rw [← Array.any_toList, List.any_eq_false]
      intro en hen
      obtain ⟨k, h1, _⟩ := hks en (Array.mem_toList_iff.mp hen)
      obtain ⟨t, h2⟩ := Value.isStrOf_shape h1
      simp [DictEntry.refKey, h2]
    rw [this, Bool.and_false]
  rw [aRefKeyMayBeTheName_at, c]
  refine wpAny_updatePart hod ?_
  have hsame := Heap.SameBut.update s.heap d (Obj.putName name (PyData.keyHash X.C.w.params name) (.str name (s.toks + 1)) u)
  have old : ∃ y, σ.S d = some y := ⟨l, hs⟩
  have dm : σ.Dom d := .inr (.inr (.inr (by rw [hs]; nofun)))
  have hT : Tr X.fs [] σ s.heap (σ.setS d (putK l name v)) (s.heap.update d (Obj.putName name (PyData.keyHash X.C.w.params name) (.str name (s.toks + 1)) u)) :=
    Tr.at dm (fun b o hb e => hsame.extBut b o hb e) (let ⟨o, _, _, ho, _⟩ := D'; ⟨o, ho⟩) SameOff.setS
  obtain ⟨o3, es3, ep3, ho3, hc3, hd3, hks3, hp3, hn3⟩ := id D'
  refine wpAny_bind (wpAny_lookBehind ho3 ?_ ?_)
  · have := L' (by rw [hk.length]; exact hl)
    rw [show o3 = Obj.putName name (PyData.keyHash X.C.w.params name) (.str name (s.toks + 1)) u od from ?_]
    · exact this
    · have e1 : (s.heap.update d (Obj.putName name (PyData.keyHash X.C.w.params name) (.str name (s.toks + 1)) u)).get? d = some o3 := ho3
      have e2 := Heap.get?_update_self (h := s.heap) (Obj.putName name (PyData.keyHash X.C.w.params name) (.str name (s.toks + 1)) u) hod (by
        by_cases z : (Obj.putName name (PyData.keyHash X.C.w.params name) (.str name (s.toks + 1)) u od).isFreed = true
        · exfalso
          obtain ⟨oc, odi, oda, osl⟩ := od
          dsimp only at hdd
          subst hdd
          unfold Obj.putName at z
          dsimp only at z
          split at z <;> cases z
        · simpa using z)
      rw [e1] at e2; exact Option.some.inj e2
  · refine wpAny_pure (q () () _ _ h (S.stepE (tk := s.toks + 2) hT ?_) hT trivial)
    exact S.objs.upd (fun b o hb e => hsame.extBut b o hb e) (fun o e f => by
        obtain ⟨o', e', n⟩ := S.objs.notFixed dm; rw [e] at e'; cases e'; exact n f) SameOff.setS (AtD.sdict S.objs (.inl old) D' ((hk.put name p.2).move (S.fx hT)))
noncomputable def propIn (K : Frag) (C : Addr) (name : Str) (p fget fset : Addr) : Bool :=
  plainGet K C name && ((clsIn K C).isSome && (findIn K (.ref C) name == some (some (.ref p)) && (specialIn K (.ref p) "__get__" == some (some (.builtin "property.__get__")) && (takesIn K (.ref p) == some true &&
    (match recIn K p "property" with | some (.ref a :: .ref b :: _) => a == fget && b == fset | _ => false)))))
theorem propIn_of {K : Frag} {C : Addr} {name : Str} {p fget fset : Addr} (h : propIn K C name p fget fset = true) : plainGet K C name = true ∧ (clsIn K C).isSome = true ∧ findIn K (.ref C) name = some (some (.ref p)) ∧
    specialIn K (.ref p) "__get__" = some (some (.builtin "property.__get__")) ∧ takesIn K (.ref p) = some true ∧ ∃ r, recIn K p "property" = some (.ref fget :: .ref fset :: r) := by
  obtain ⟨a, h⟩ := Bool.and_eq_true_iff.mp h
  obtain ⟨b, h⟩ := Bool.and_eq_true_iff.mp h
  obtain ⟨c, h⟩ := Bool.and_eq_true_iff.mp h
  obtain ⟨d, h⟩ := Bool.and_eq_true_iff.mp h
  obtain ⟨e, h⟩ := Bool.and_eq_true_iff.mp h
  refine ⟨a, b, beq_iff_eq.mp c, beq_iff_eq.mp d, beq_iff_eq.mp e, ?_⟩
  split at h
  · rename_i x y r q
    obtain ⟨h1, h2⟩ := Bool.and_eq_true_iff.mp h
    exact ⟨r, by rw [q, beq_iff_eq.mp h1, beq_iff_eq.mp h2]⟩
  · cases h
theorem ga_prop {x C d p fget fset : Addr} {l : List (Str × MV)} {name : Str} {ex : Bool} {K} (hi : σ.I x = some (C, d)) (hs : σ.S d = some l) (hc : propIn X.C.K C name p fget fset = true)
    (h : RunC X.in1 m σ (fun _ => True) (.call (.ref fget) ⟨[.ref x], []⟩) (fun v σ' => v.plain = true ∧ K v σ') (fun _ _ => False)) :
    Op1 X m σ VR (fun o => getAttr o name ex) (.ref x) K KE := fun o s S p Q E q e => by
  obtain rfl := VR.ref p
  obtain ⟨od, kvs, I, hk, hl, _⟩ := S.inst hi hs
  obtain ⟨c1, c2, c3, c4, c5, r, c6⟩ := propIn_of hc
  refine get_bind S.K I (plainGet_of c1).1 (findObj_data c2 c3 c4 c5) (plainGet_of c1).2 (wpAny_call (prop_get (s := { s with toks := s.toks + 1 }) (S.tok (s.toks + 1)).K c6 ?_))
  refine h _ (S.tok (s.toks + 1)).in1 trivial _ (fun v mv σ' s' k S' T r => ?_) (fun ev x σ' s' k => k.elim)
  dsimp only
  rw [handedOut_of (MV.plain_handed k.1 r)]
  exact wpAny_pure (q v mv σ' s' k.2 S'.out1 T r)
noncomputable def propSet (K : Frag) (C : Addr) (name : Str) (p : Addr) : Bool := findIn K (.ref C) "__setattr__" == some (some (.builtin "object.__setattr__")) && (plainOver K C && (takerIn K C name == some (some (.ref p)) && typeIn K (.ref p) == some (.type "property")))
theorem sa_prop {x C d p fget fset : Addr} {l : List (Str × MV)} {name : Str} {v : MV} {K} (hi : σ.I x = some (C, d)) (hs : σ.S d = some l) (hc : propIn X.C.K C name p fget fset = true) (hc' : propSet X.C.K C name p = true)
    (h : ∀ u, RunC X.in1.in1 m σ (fun h => VR h v u) (.call (.ref fset) ⟨[.ref x, u], []⟩) (fun _ σ' => K () σ') KE) :
    ∀ o u, RunE X m σ UR (fun h => VR h (.ref x) o ∧ VR h v u) (setAttr o name u) K KE := fun o u s S p Q E q e => by
  obtain rfl := VR.ref p.1
  obtain ⟨od, kvs, I, hk, hlk, hod, D⟩ := S.inst hi hs
  obtain ⟨c1, c2, c3, c4, c5, r, c6⟩ := propIn_of hc
  obtain ⟨d1, d2⟩ := Bool.and_eq_true_iff.mp hc'
  obtain ⟨d2, d3⟩ := Bool.and_eq_true_iff.mp d2
  obtain ⟨d3, d4⟩ := Bool.and_eq_true_iff.mp d3
  have S1 := S.tok (s.toks + 1)
  refine set_plain S.K I (beq_iff_eq.mp d1) (osa_descr (s := { s with toks := s.toks + 1 }) KF.slot_pset S1.K I d2 (beq_iff_eq.mp d3) (beq_iff_eq.mp d4) (prop_set S1.K c6 ?_))
  exact h u _ S1.in1.in1 p.2 _ (fun w mw σ' s' k S' T r => q () () σ' s' k S'.out1.out1 T trivial) (fun ev x σ' s' k S' T r => e ev x σ' s' k S'.out1.out1 T r)
noncomputable def MRel (h : Heap) (b : Value × List MV) (a : Value × List Value) : Prop := a.1 = b.1 ∧ VRs h b.2 a.2
noncomputable abbrev GetM (X : Fx) (m : Loc) (σ : MHeap) (name : Str) (pl : Sem Bool) (ov : MV) (K : Value → List MV → MHeap → Prop) (KE : Value → MHeap → Prop) : Prop :=
  ∀ o, RunE X m σ MRel (fun h => VR h ov o) (getMethod o name pl) (fun b σ' => K b.1 b.2 σ') KE
noncomputable def methIn (K : Frag) (C : Addr) (name : Str) (f : Addr) : Bool := plainGet K C name && (findIn K (.ref C) name == some (some (.ref f)) && isFn K (.ref f))
theorem gm_inst {x C d f : Addr} {l : List (Str × MV)} {name : Str} {pl : Sem Bool} {K} (hi : σ.I x = some (C, d)) (hs : σ.S d = some l) (hc : methIn X.C.K C name f = true) (hl : atK l name = none) (h : K (.ref f) [.ref x] σ) : GetM X m σ name pl (.ref x) K KE := fun o s S p Q E q e => by
  obtain rfl := VR.ref p
  obtain ⟨od, kvs, I, hk, hlk, _⟩ := S.inst hi hs
  obtain ⟨c1, c2⟩ := Bool.and_eq_true_iff.mp hc
  obtain ⟨c2, c3⟩ := Bool.and_eq_true_iff.mp c2
  exact method_fn S.K I (plainGet_of c1).1 (plainGet_of c1).2 (beq_iff_eq.mp c2) (beq_iff_eq.mp c3) (by show (lookIn name od).map _ = _; rw [hlk, hk.noneAt hl]; rfl)
    (q _ (.ref f, [.ref x]) σ _ h S Tr.refl ⟨rfl, VRs.cons VR.ofRef VRs.nil⟩)
end
end Mine
namespace Mine
noncomputable def noStar : Expr → Bool
  | .Starred .. => false
  | _ => true
theorem star_cons {e : Expr} {rest : List Expr} {env : Env} (h : noStar e = true) : starEach (e :: rest) env = (false, eval e env) :: starEach rest env := by
  cases e <;> first | rfl | cases h
theorem star_plain {pos : Pos} {env : Env} : ∀ {l : List Expr}, l.all noStar = true → (backTo pos (starEach l env)).any (·.1) = false
  | [], _ => rfl
  | e :: r, h => by
    rw [List.all_cons, Bool.and_eq_true] at h
    rw [star_cons h.1]
    show (false || (backTo pos (starEach r env)).any (·.1)) = false
    rw [star_plain h.2]; rfl
noncomputable def named (k : Keyword) : Bool := k.arg.isSome
theorem kw_all {pos : Pos} {env : Env} : ∀ {l : List Keyword}, l.all named = true → (backToKw pos (keywordEach l env)).all (·.1.isSome) = true
  | [], _ => rfl
  | ⟨n, e, p⟩ :: r, h => by
    rw [List.all_cons, Bool.and_eq_true] at h
    show (n.isSome && (backToKw pos (keywordEach r env)).all (·.1.isSome)) = true
    rw [kw_all h.2, Bool.and_true]; exact h.1
theorem kw_plain {pos : Pos} {env : Env} : ∀ {l : List Keyword}, l.all named = true → (backToKw pos (keywordEach l env)).any (·.1.isNone) = false
  | [], _ => rfl
  | ⟨n, e, p⟩ :: r, h => by
    rw [List.all_cons, Bool.and_eq_true] at h
    show (n.isNone || (backToKw pos (keywordEach r env)).any (·.1.isNone)) = false
    rw [kw_plain h.2, Bool.or_false]
    cases n with
    | none => cases h.1
    | some _ => rfl
section
variable {X : Fx} {m : Loc} {σ : MHeap} {KE : Value → MHeap → Prop}
noncomputable abbrev EvL (X : Fx) (m : Loc) (σ : MHeap) (pos : Pos) (l : List Expr) (K : List MV → MHeap → Prop) (KE : Value → MHeap → Prop) : Prop := RunE X m σ VRs (fun _ => True) (spliced (backTo pos (starEach l X.env))) K KE
theorem el_nil {pos} {K} (h : K [] σ) : EvL X m σ pos [] K KE := fun s S _ Q E q e => Calls.spliced_nil (q _ _ σ s h S Tr.refl VRs.nil)
theorem el_cons {pos e rest} {K} (hs : noStar e = true) (h : EvE X m σ e (fun v σ₁ => EvL X m σ₁ pos rest (fun vs σ₂ => K (v :: vs) σ₂) KE) KE) : EvL X m σ pos (e :: rest) K KE := fun s S _ Q E q er => by
  rw [star_cons hs]
  exact Calls.spliced_cons (h s S trivial _ E (fun a v σ₁ s₁ h₁ S₁ T₁ r₁ => h₁ s₁ S₁ trivial _ E (fun vs ms σ₂ s₂ h₂ S₂ T₂ r₂ => q _ _ σ₂ s₂ h₂ S₂ (T₁.trans T₂) (VRs.cons (r₁.move (S₁.fx T₂)) r₂)) (er.after T₁)) er)
noncomputable def KRel (names : List Str) (h : Heap) (b : List (Str × MV)) (a : List Value) : Prop := KVs h b (names.zip a)
noncomputable abbrev kwTrees (X : Fx) (pos : Pos) (kws : List Keyword) : List (Option Str × Sem Value) := backToKw pos (keywordEach kws X.env)
noncomputable abbrev EvKw (X : Fx) (m : Loc) (σ : MHeap) (pos : Pos) (kws : List Keyword) (K : List (Str × MV) → MHeap → Prop) (KE : Value → MHeap → Prop) : Prop :=
  RunE X m σ (KRel ((kwTrees X pos kws).filterMap (·.1))) (fun _ => True) (evalAll ((kwTrees X pos kws).map (·.2))) K KE
theorem ek_nil {pos} {K} (h : K [] σ) : EvKw X m σ pos [] K KE := fun s S _ Q E q e => wpAny_evalAll_nil (q _ _ σ s h S Tr.refl rfl)
theorem ek_cons {pos n e p rest} {K} (h : EvE X m σ e (fun v σ₁ => EvKw X m σ₁ pos rest (fun vs σ₂ => K ((n, v) :: vs) σ₂) KE) KE) : EvKw X m σ pos (⟨some n, e, p⟩ :: rest) K KE := fun s S _ Q E q er => by
  show wpAny _ _ (evalAll ((do let v ← eval e X.env; standAt pos; pure v) :: (kwTrees X pos rest).map (·.2))) _ _ _
  refine wpAny_evalAll_cons (wpAny_bind (h s S trivial _ E (fun a v σ₁ s₁ h₁ S₁ T₁ r₁ => wpAny_bind (wpAny_standAt (wpAny_pure ?_))) er))
  exact h₁ s₁ S₁ trivial _ E (fun vs ms σ₂ s₂ h₂ S₂ T₂ r₂ => q _ _ σ₂ s₂ h₂ S₂ (T₁.trans T₂) ⟨a, _, rfl, r₁.move (S₁.fx T₂), r₂⟩) (er.after T₁)
noncomputable abbrev CallR (X : Fx) (m : Loc) (σ : MHeap) {β : Type} (R : Heap → β → Value → Prop) (f : Value) (vs : List MV) (ks : List (Str × MV)) (K : β → MHeap → Prop) (KE : Value → MHeap → Prop) : Prop :=
  ∀ vals kw, RunE X m σ R (fun h => VRs h vs vals ∧ KVs h ks kw) (PySem.call f vals kw) K KE
noncomputable abbrev CallV (X : Fx) (m : Loc) (σ : MHeap) (f : Value) (vs : List MV) (ks : List (Str × MV)) (K : MV → MHeap → Prop) (KE : Value → MHeap → Prop) : Prop := CallR X m σ VR f vs ks K KE
noncomputable abbrev EvR (X : Fx) (m : Loc) (σ : MHeap) {β : Type} (R : Heap → β → Value → Prop) (e : Expr) (K : β → MHeap → Prop) (KE : Value → MHeap → Prop) : Prop := RunE X m σ R (fun _ => True) (eval e X.env) K KE
noncomputable def KeepOk (C : Cx) (f : Value) : Prop := ∀ h, C.K.In h → ∃ k, (k = Keeper.frame ∨ k = Keeper.machine ∨ k = Keeper.boundFrame) ∧ Looks C.M h (keeperOf f) k
theorem KeepOk.K {C : Cx} {f : Value} (h : keepIn C.K f = true) : KeepOk C f := fun hp x => keeps_K h hp x
theorem KeepOk.builtin {C : Cx} {id : String} : KeepOk C (.builtin id) := fun h _ => ⟨.machine, .inr (.inl rfl), Looks.now⟩
theorem KeepOk.type {C : Cx} {id : String} : KeepOk C (.type id) := fun h _ => ⟨.machine, .inr (.inl rfl), Looks.now⟩
theorem evalArgs_any {M : Model} {A : Around} {E : Value → Shared → Prop} {s : Shared} {env : Env} {f : Value} {pos : Pos} {args : List Expr} {kws : List Keyword} {Q : Args → Shared → Prop} (ha : args.all noStar = true) (hk : kws.all named = true)
    (h : wpAny M A (spliced (backTo pos (starEach args env))) (fun vs s₁ => wpAny M A (evalAll ((backToKw pos (keywordEach kws env)).map (·.2)))
      (fun ks s₂ => Q ⟨vs, ((backToKw pos (keywordEach kws env)).filterMap (·.1)).zip ks⟩ s₂) E s₁) E s) : wpAny M A (evalArgs f true (backTo pos (starEach args env)) (backToKw pos (keywordEach kws env))) Q E s := by
  cases args with
  | nil =>
    have hall := kw_all (pos := pos) (env := env) hk
    unfold evalArgs
    show wpAny M A (spliced (backTo pos (starEach [] env)) >>= _) Q E s
    refine wpAny_bind (wpAny_mono h (fun vs s₁ h₁ => ?_) fun _ _ x => x)
    refine wpAny_bind (wpAny_pure ?_)
    refine wpAny_holding ?_
    simp only [hall, if_true]
    refine wpAny_bind (wpAny_mono h₁ (fun ks s₂ h₂ => ?_) fun _ _ x => x)
    exact wpAny_bind (wpAny_pure (wpAny_pure h₂))
  | cons e r =>
    rw [List.all_cons, Bool.and_eq_true] at ha
    exact evalArgs_kw2 (kw_all hk) h (star_cons ha.1)
theorem call_with {β : Type} {R : Heap → β → Value → Prop} {pos : Pos} {f : Value} {first : List MV} {args : List Expr} {kws : List Keyword} {K : β → MHeap → Prop} (kf : KeepOk X.C f) (ha : args.all noStar = true) (hk : kws.all named = true)
    (h : EvL X m σ pos args (fun vs σ₁ => EvKw X m σ₁ pos kws (fun ks σ₂ => CallR X m σ₂ R f (first ++ vs) ks K KE) KE) KE) (fv : List Value) :
    RunE X m σ R (fun h => VRs h first fv) (callWith pos f fv (backTo pos (starEach args X.env)) (backToKw pos (keywordEach kws X.env))) K KE := fun s S p Q E q e => by
  refine callWith_of (P := fun hp => X.C.K.In hp) (by rw [star_plain ha, kw_plain hk]; rfl) kf (evalArgs_any ha hk ?_)
  refine h s S trivial _ E (fun vals vs σ₁ s₁ h₁ S₁ T₁ r₁ => h₁ s₁ S₁ trivial _ E (fun kvals ks σ₂ s₂ h₂ S₂ T₂ r₂ => ⟨S₂.K, ?_⟩) (e.after T₁)) e
  exact h₂ _ _ s₂ S₂ ⟨(VRs.append (p.move (S.fx T₁)) r₁).move (S₁.fx T₂), r₂⟩ Q E ((q.after T₁).after T₂) ((e.after T₁).after T₂)
noncomputable def CallW (X : Fx) (m : Loc) (σ : MHeap) {β : Type} (R : Heap → β → Value → Prop) (pos : Pos) (first : List MV) (args : List Expr) (kws : List Keyword) (K : β → MHeap → Prop) (KE : Value → MHeap → Prop) (f : Value) : Prop :=
  KeepOk X.C f ∧ EvL X m σ pos args (fun vs σ₁ => EvKw X m σ₁ pos kws (fun ks σ₂ => CallR X m σ₂ R f (first ++ vs) ks K KE) KE) KE
noncomputable def CallM (X : Fx) (m : Loc) (σ : MHeap) {β : Type} (R : Heap → β → Value → Prop) (pos : Pos) (args : List Expr) (kws : List Keyword) (K : β → MHeap → Prop) (KE : Value → MHeap → Prop) (f : MV) : Prop := ∃ v, f = .raw v ∧ CallW X m σ R pos [] args kws K KE v
section
variable {β : Type} {R : Heap → β → Value → Prop} {pos : Pos} {first : List MV} {args : List Expr} {kws : List Keyword} {K : β → MHeap → Prop}
theorem cw_b {id : String} (h : EvL X m σ pos args (fun vs σ₁ => EvKw X m σ₁ pos kws (fun ks σ₂ => CallR X m σ₂ R (.builtin id) (first ++ vs) ks K KE) KE) KE) : CallW X m σ R pos first args kws K KE (.builtin id) := ⟨KeepOk.builtin, h⟩
theorem cw_t {id : String} (h : EvL X m σ pos args (fun vs σ₁ => EvKw X m σ₁ pos kws (fun ks σ₂ => CallR X m σ₂ R (.type id) (first ++ vs) ks K KE) KE) KE) : CallW X m σ R pos first args kws K KE (.type id) := ⟨KeepOk.type, h⟩
theorem cw_r {a : Addr} (hk : keepIn X.C.K (.ref a) = true) (h : EvL X m σ pos args (fun vs σ₁ => EvKw X m σ₁ pos kws (fun ks σ₂ => CallR X m σ₂ R (.ref a) (first ++ vs) ks K KE) KE) KE) : CallW X m σ R pos first args kws K KE (.ref a) := ⟨KeepOk.K hk, h⟩
theorem cm_raw {v : Value} (h : CallW X m σ R pos [] args kws K KE v) : CallM X m σ R pos args kws K KE (.raw v) := ⟨v, rfl, h⟩
end
theorem er_call_name {β : Type} {R : Heap → β → Value → Prop} {id p args kws pos} {K : β → MHeap → Prop} (ha : args.all noStar = true) (hk : kws.all named = true)
    (h : EvE X m σ (.Name id p) (fun fm σ₀ => CallM X m σ₀ R pos args kws K KE fm) KE) :
    EvR X m σ R (.Call (.Name id p) args kws pos) K KE := fun s S _ Q E q e =>
  wpAny_Call_Name_kw (h s S trivial _ E (fun fv fm σ₁ s₁ h₁ S₁ T₁ r₁ => by
    obtain ⟨f, rfl, kf, h₁⟩ := h₁
    obtain rfl := VR.raw r₁
    exact call_with (first := []) kf ha hk h₁ [] s₁ S₁ VRs.nil Q E (q.after T₁) (e.after T₁)) e)
theorem ev_call_name {id p args kws pos} {K} (ha : args.all noStar = true) (hk : kws.all named = true)
    (h : EvE X m σ (.Name id p) (fun fm σ₀ => CallM X m σ₀ VR pos args kws K KE fm) KE) :
    EvE X m σ (.Call (.Name id p) args kws pos) K KE := er_call_name ha hk h
theorem ev_call_meth {o name apos args kws pos} {pl : Sem Bool} {K} (ha : args.all noStar = true) (hk : kws.all named = true)
    (he : eval (.Call (.Attribute o name apos) args kws pos) X.env = (do
      let ov ← eval o X.env
      standAt apos.atName
      let (f, first) ← holding [ov] (getMethod ov name pl)
      callWith pos f first (backTo pos (starEach args X.env)) (backToKw pos (keywordEach kws X.env))))
    (h : EvE X m σ o (fun ov σ₀ => GetM X m σ₀ name pl ov (fun f first σ₁ => CallW X m σ₁ VR pos first args kws K KE f) KE) KE) :
    EvE X m σ (.Call (.Attribute o name apos) args kws pos) K KE := fun s S _ Q E q e =>
  methodCall_KW (h s S trivial _ E (fun ov om σ₁ s₁ h₁ S₁ T₁ r₁ => h₁ ov s₁ S₁ r₁ _ E (fun fx b σ₂ s₂ h₂ S₂ T₂ r₂ => by
    obtain ⟨kf, h₂⟩ := h₂
    obtain ⟨f, first⟩ := fx
    obtain ⟨r2, r3⟩ := r₂
    dsimp only at r2 r3 ⊢
    subst r2
    exact call_with kf ha hk h₂ first s₂ S₂ r3 Q E ((q.after T₁).after T₂) ((e.after T₁).after T₂)) (e.after T₁)) e) he
theorem ev_attr {o attr pos} {K} (he : eval (.Attribute o attr pos) X.env = (do
      let v ← eval o X.env
      standAt pos.atName
      let r ← holding [v] (getAttr v attr true)
      letTemporaryGo o v r
      pure r)) (h : EvE X m σ o (fun ov σ₁ => Op1 X m σ₁ VR (fun v => getAttr v attr true) ov K KE) KE) : EvE X m σ (.Attribute o attr pos) K KE := fun s S _ Q E q e =>
  Attribute_any_ (h s S trivial _ E (fun v va σ₁ s₁ h₁ S₁ T₁ r₁ => h₁ v s₁ S₁ r₁ Q E (q.after T₁) (e.after T₁)) e) he
theorem SmF.push {s : Shared} (S : SmF X m σ s) {o : Obj} {σ' : MHeap} {tk : Nat} (hf : o.isFreed = false) (so : SameOff s.heap.objs.size σ σ') (at_ : AtD X.C σ' (s.heap.push o) s.heap.objs.size) :
    SmF X m σ' { s with heap := s.heap.push o, toks := tk } ∧ Tr X.fs [] σ s.heap σ' (s.heap.push o) := by
  have fresh : s.heap.get? s.heap.objs.size = none := by
    cases z : s.heap.get? s.heap.objs.size with
    | none => rfl
    | some o => exact absurd (Heap.lt_size z) (Nat.lt_irrefl _)
  have k : ∀ b x, s.heap.get? b = some x → (s.heap.push o).get? b = some x := fun b x e => Heap.get?_push_of_some _ e
  have T : Tr X.fs [] σ s.heap σ' (s.heap.push o) := ⟨fun b x e _ _ _ => k b x e, fun b x e _ _ => ⟨x.slots, k b x e⟩, fun b x e => ⟨x, k b x e⟩, fun b d => by
    by_cases z : b = s.heap.objs.size
    · subst z; exact .inr fresh
    · exact .inl (so.dom z d)⟩
  exact ⟨S.stepE T (S.objs.upd (fun b x _ e => k b x e) (fun x e => by rw [fresh] at e; cases e) so at_), T⟩
theorem SmF.fresh {s : Shared} (S : SmF X m σ s) : s.heap.get? s.heap.objs.size = none ∧ ¬ σ.Dom s.heap.objs.size := by
  have fresh : s.heap.get? s.heap.objs.size = none := by
    cases z : s.heap.get? s.heap.objs.size with
    | none => rfl
    | some o => exact absurd (Heap.lt_size z) (Nat.lt_irrefl _)
  exact ⟨fresh, fun d => by obtain ⟨o, e⟩ := S.objs.there d; rw [fresh] at e; cases e⟩
theorem ev_list {l pos} {K} (h : EvL X m σ pos l (fun vs σ₁ => vs.length ≤ 1000 ∧ ∀ a, ¬ σ₁.Dom a → K (.ref a) (σ₁.setL a vs)) KE) : EvE X m σ (.List l pos) K KE := fun s S _ Q E q e =>
  wpAny_List_spliced (h s S trivial _ E (fun vals vs σ₁ s₁ h₁ S₁ T₁ r₁ => by
    refine ⟨by rw [r₁.length, sizeLine_eq]; omega, ?_⟩
    obtain ⟨S₂, T₂⟩ := S₁.push (o := { cls := .type "list", data := .seq vals.toArray }) (tk := s₁.toks) rfl (SameOff.setL (x := vs))
      (AtD.list (vs := vals.toArray) (n := 0) S₁.objs (.inr S₁.fresh.1) (Heap.get?_push_size _ rfl) (r₁.move fun b o e _ => Heap.get?_push_of_some _ e))
    exact q _ _ _ _ (h₁.2 _ S₁.fresh.2) S₂ (T₁.trans T₂) VR.ofRef) e)
theorem AtD.none {C : Cx} {h h' : Heap} {a : Addr} (O : Objs C σ h) (old : h.get? a = none) : AtD C σ h' a := by
  obtain ⟨q1, q2, q3, q4⟩ := O.none_of old
  refine ⟨fun c d z => ?_, fun l z => ?_, fun l z => ?_, fun l z => ?_, .inl q3, fun ep z => by obtain ⟨_, o, es, ho, _⟩ := O.E a ep z; rw [old] at ho; cases ho⟩
  · rw [q1] at z; cases z
  · rw [q2] at z; cases z
  · rw [q3] at z; cases z
  · rw [q4] at z; cases z
theorem ev_tuple {l x1 pos} {K} (h : EvL X m σ pos l (fun vs σ₁ => vs.length ≤ 1000 ∧ K (.tup vs) σ₁) KE) : EvE X m σ (.Tuple l x1 pos) K KE := fun s S _ Q E q e =>
  wpAny_Tuple_spliced (h s S trivial _ E (fun vals vs σ₁ s₁ h₁ S₁ T₁ r₁ => by
    refine ⟨by rw [r₁.length, sizeLine_eq]; omega, ?_⟩
    obtain ⟨S₂, T₂⟩ := S₁.push (o := { cls := .type "tuple", data := .seq vals.toArray }) (tk := s₁.toks) rfl SameOff.refl (AtD.none S₁.objs S₁.fresh.1)
    exact q _ _ _ _ h₁.2 S₂ (T₁.trans T₂) (by
      unfold VR
      exact ⟨_, vals.toArray, rfl, ⟨_, Heap.get?_push_size _ rfl, rfl, 0, rfl⟩, r₁.move fun b o e _ => Heap.get?_push_of_some _ e⟩)) e)
end
end Mine
namespace Mine
inductive Upd : Loc → Str → MV → Loc → Prop
  | here {x u v r} : Upd ((x, u) :: r) x v ((x, v) :: r)
  | there {p x v r r'} : Upd r x v r' → Upd (p :: r) x v (p :: r')
theorem Upd.keys {m m' : Loc} {x : Str} {v : MV} (h : Upd m x v m') : m'.map (·.1) = m.map (·.1) ∧ x ∈ m.map (·.1) := by
  induction h with
  | here => exact ⟨rfl, by simp⟩
  | there _ ih => exact ⟨by simp [ih.1], by simp [ih.2]⟩
theorem Upd.mem {m m' : Loc} {x : Str} {v : MV} (h : Upd m x v m') (nd : (m.map (·.1)).Nodup) : ∀ p ∈ m', (p = (x, v)) ∨ (p ∈ m ∧ p.1 ≠ x) := by
  induction h with
  | here =>
    intro p hp
    simp only [List.map_cons, List.nodup_cons] at nd
    rcases List.mem_cons.mp hp with q | q
    · exact .inl q
    · exact .inr ⟨.tail _ q, fun z => nd.1 (z ▸ List.mem_map_of_mem (f := (·.1)) q)⟩
  | @there p₀ x v r r' h ih =>
    intro p hp
    simp only [List.map_cons, List.nodup_cons] at nd
    rcases List.mem_cons.mp hp with q | q
    · refine .inr ⟨q ▸ .head _, fun z => nd.1 ?_⟩
      rw [← q, z]; exact h.keys.2
    · rcases ih nd.2 p q with z | ⟨z, y⟩
      · exact .inl z
      · exact .inr ⟨.tail _ z, y⟩
inductive SetM (m : Loc) (x : Str) (v : MV) : Loc → Prop
  | old {m'} : Upd m x v m' → SetM m x v m'
  | new : (m.any fun p => p.1 == x) = false → SetM m x v ((x, v) :: m)
theorem SetM.mem {m m' : Loc} {x : Str} {v : MV} (h : SetM m x v m') (nd : (m.map (·.1)).Nodup) : (m'.map (·.1)).Nodup ∧ ∀ p ∈ m', (p = (x, v)) ∨ (p ∈ m ∧ p.1 ≠ x) := by
  cases h with
  | old h => exact ⟨by rw [h.keys.1]; exact nd, h.mem nd⟩
  | new h =>
    have hx : ∀ p ∈ m, p.1 ≠ x := fun p hp z => by
      have := List.any_eq_false.mp h p hp
      simp [z] at this
    refine ⟨by simp only [List.map_cons, List.nodup_cons]; exact ⟨fun q => by obtain ⟨p, hp, z⟩ := List.mem_map.mp q; exact hx p hp z, nd⟩, fun p hp => ?_⟩
    rcases List.mem_cons.mp hp with q | q
    · exact .inl q
    · exact .inr ⟨q, hx p q⟩
section
variable {X : Fx} {m m' : Loc} {σ : MHeap}
theorem SmF.store {s : Shared} (S : SmF X m σ s) {x : Str} {v : MV} {u : Value} {h' : Heap} {tk : Nat} {a : Addr} (ha : a ∈ X.own) (hS : SetM m x v m') (ok : okName x = true) (hk : X.env.kindOf x = some .local ∨ X.env.kindOf x = some .cell ∨ X.env.kindOf x = some .free)
    (hs : Heap.SameBut a s.heap h') (ho : ∃ o, h'.get? a = some o ∧ ¬ Fixed o)
    (hns : ∃ f, h'.Ns X.env.locals f ∧ ∀ y w, (y, w) ∈ m' → X.env.kindOf y = some .local → ∃ w', f y = some w' ∧ VR h' w w')
    (hcl : ∀ y w, (y, w) ∈ m' → X.env.kindOf y = some .cell ∨ X.env.kindOf y = some .free → ∃ c w', X.env.cells.lookup y = some c ∧ h'.IsCell c (some w') ∧ VR h' w w')
    (hld : ∀ y, X.env.kindOf y = some .cell → ∃ c v₀, X.env.cells.lookup y = some c ∧ h'.IsCell c v₀) :
    SmF X m' σ { s with heap := h', toks := tk } ∧ Tr X.fs X.own σ s.heap σ h' := by
  have k : ∀ b o, b ≠ a → s.heap.get? b = some o → h'.get? b = some o := fun b o hb e => hs.extBut b o hb e
  have nd := (S.sepo a ha).2
  have T : Tr X.fs X.own σ s.heap σ h' := ⟨fun b o e n w f => k b o (fun q => w (q ▸ ha)) e, fun b o e n w => ⟨o.slots, k b o (fun q => w (q ▸ ha)) e⟩, fun b o e => by
    by_cases q : b = a
    · subst q; exact ⟨_, ho.choose_spec.1⟩
    · exact ⟨o, k b o q e⟩, fun b d => .inl d⟩
  have fx : ∀ b o, s.heap.get? b = some o → Fixed o → b ≠ a := fun b o e f q => by
    obtain ⟨o', e', n⟩ := S.ownc a ha
    rw [q, e'] at e; cases e; exact n f
  have O : Objs X.C σ h' := S.objs.upd (d := a) k (fun o e f => (fx a o e f) rfl) SameOff.refl (by
    have z := fun (c : σ.Dom a) => nd c
    refine ⟨fun c d e => (z (.inl (by rw [e]; nofun))).elim, fun l e => (z (.inr (.inl (by rw [e]; nofun)))).elim, fun l e => (z (.inr (.inr (.inl (by rw [e]; nofun))))).elim, fun l e => (z (.inr (.inr (.inr (by rw [e]; nofun))))).elim, S.objs.X a, fun ep z => (nd (S.objs.E a ep z).1).elim⟩)
  have ow : ∀ b ∈ X.own, ∃ o, h'.get? b = some o ∧ ¬ Fixed o := fun b hb => by
    by_cases q : b = a
    · subst q; exact ho
    · obtain ⟨o, e, n⟩ := S.ownc b hb
      exact ⟨o, k b o q e, n⟩
  have sm := S.toSm.step (own := X.own) (tk := tk) S.ownc (fun b hb => (S.sepo b hb).1) T O ow
  obtain ⟨n2, mem⟩ := hS.mem S.frame.nd
  refine ⟨{ toSm := sm, ok := S.ok, frame := ⟨hns, hcl, hld, fun y w hy => ?_, n2⟩, sepo := S.sepo, ownc := ow }, T⟩
  rcases mem _ hy with q | ⟨q, _⟩
  · cases q; exact ⟨ok, hk⟩
  · exact S.frame.only y w q
theorem cells_ne {l : List (Str × Addr)} (nd : (l.map (·.2)).Nodup) {x y : Str} {c d : Addr} (hx : l.lookup x = some c) (hy : l.lookup y = some d) (n : x ≠ y) : c ≠ d := by
  induction l with
  | nil => cases hx
  | cons p r ih =>
    obtain ⟨k, a⟩ := p
    simp only [List.map_cons, List.nodup_cons] at nd
    rw [List.lookup_cons] at hx hy
    by_cases e : x = k
    · subst e
      simp only [beq_self_eq_true, Option.some.injEq] at hx
      subst hx
      rw [show (y == x) = false from by simpa using Ne.symm n] at hy
      exact fun z => nd.1 (z ▸ lookup_cells hy)
    · rw [show (x == k) = false from by simpa using e] at hx
      by_cases f : y = k
      · subst f
        simp only [beq_self_eq_true, Option.some.injEq] at hy
        subst hy
        exact fun z => nd.1 (z ▸ lookup_cells hx)
      · rw [show (y == k) = false from by simpa using f] at hy
        exact ih nd.2 hx hy
theorem st_local {s : Shared} (S : SmF X m σ s) {x : Str} {v : MV} {u : Value} (hk : X.env.kindOf x = some .local) (ok : okName x = true) (hS : SetM m x v m') (r : VR s.heap v u) {Q : Unit → Shared → Prop} {E : Value → Shared → Prop}
    (q : ∀ s', SmF X m' σ s' → Tr X.fs X.own σ s.heap σ s'.heap → Heap.SameBut X.env.locals s.heap s'.heap → Q () s') : wpAny X.C.M X.A (storeName X.env x u) Q E s := by
  obtain ⟨f, hn, hf⟩ := S.frame.ns
  refine wpAny_storeName_local hk hn (fun h' hn' hs' => ?_) (by rw [S.ok.fn]; rfl)
  have own : X.env.locals ∈ X.own := .head _
  have tt : ∀ b o, s.heap.get? b = some o → Fixed o → h'.get? b = some o := fun b o e fx => hs'.extBut b o (fun q => by
    obtain ⟨o', e', n⟩ := S.ownc _ own
    rw [q, e'] at e; cases e; exact n fx) e
  obtain ⟨n2, mem⟩ := hS.mem S.frame.nd
  have cellk : ∀ y c v₀, X.env.cells.lookup y = some c → s.heap.IsCell c v₀ → h'.IsCell c v₀ := fun y c v₀ hc ⟨o, ho, hd⟩ => ⟨o, hs'.extBut c o (fun q => S.ok.localsApart (q ▸ lookup_cells hc)) ho, hd⟩
  refine (fun z : _ ∧ _ => q _ z.1 z.2 hs') (S.store (tk := s.toks + 1) (u := u) own hS ok (.inl hk) hs' (by
      obtain ⟨o, es, ep, ho, hd, _⟩ := hn'
      refine ⟨o, ho, ?_⟩
      rintro (⟨_, a, n, z⟩ | ⟨a, z⟩) <;> rw [hd] at z <;> cases z) ⟨_, hn', fun y w hy hky => ?_⟩ (fun y w hy hky => ?_) (fun y hky => ?_))
  · rcases mem _ hy with z | ⟨z, ne⟩
    · cases z; exact ⟨u, if_pos rfl, r.move tt⟩
    · obtain ⟨w', h1, h2⟩ := hf y w z hky
      exact ⟨w', (if_neg ne).trans h1, h2.move tt⟩
  · rcases mem _ hy with z | ⟨z, ne⟩
    · cases z; rw [hk] at hky; rcases hky with z | z <;> cases z
    · obtain ⟨c, w', h1, h2, h3⟩ := S.frame.cells y w z hky
      exact ⟨c, w', h1, cellk y c _ h1 h2, h3.move tt⟩
  · obtain ⟨c, v₀, h1, h2⟩ := S.frame.laid y hky
    exact ⟨c, v₀, h1, cellk y c _ h1 h2⟩
theorem st_cell {s : Shared} (S : SmF X m σ s) {x : Str} {v : MV} {u : Value} (hk : X.env.kindOf x = some .cell) (ok : okName x = true) (hS : SetM m x v m') (r : VR s.heap v u) {Q : Unit → Shared → Prop} {E : Value → Shared → Prop}
    (q : ∀ s', SmF X m' σ s' → Tr X.fs X.own σ s.heap σ s'.heap → Q () s') : wpAny X.C.M X.A (storeName X.env x u) Q E s := by
  obtain ⟨c, v₀, hc, hv⟩ := S.frame.laid x hk
  refine wpAny_storeName_cell S.ok.fn hk hc hv (fun h' hv' hs' => ?_)
  have own : c ∈ X.own := .tail _ (lookup_cells hc)
  have tt : ∀ b o, s.heap.get? b = some o → Fixed o → h'.get? b = some o := fun b o e fx => hs'.extBut b o (fun q => by
    obtain ⟨o', e', n⟩ := S.ownc _ own
    rw [q, e'] at e; cases e; exact n fx) e
  obtain ⟨n2, mem⟩ := hS.mem S.frame.nd
  have cellk : ∀ y d v₀, y ≠ x → X.env.cells.lookup y = some d → s.heap.IsCell d v₀ → h'.IsCell d v₀ := fun y d v₀ ne hd ⟨o, ho, ho2⟩ => ⟨o, hs'.extBut d o (cells_ne S.ok.cellsApart hd hc ne) ho, ho2⟩
  obtain ⟨f, hn, hf⟩ := S.frame.ns
  have hn' : h'.Ns X.env.locals f := hn.sameBut hs' (fun q => S.ok.localsApart (q ▸ lookup_cells hc))
  refine (fun z : _ ∧ _ => q _ z.1 z.2) (S.store (tk := s.toks) (u := u) own hS ok (.inr (.inl hk)) hs' (by
      obtain ⟨o, ho, hd⟩ := hv'
      refine ⟨o, ho, ?_⟩
      rintro (⟨_, a, n, z⟩ | ⟨a, z⟩) <;> rw [hd] at z <;> cases z) ⟨_, hn', fun y w hy hky => ?_⟩ (fun y w hy hky => ?_) (fun y hky => ?_))
  · rcases mem _ hy with z | ⟨z, ne⟩
    · cases z; rw [hk] at hky; cases hky
    · obtain ⟨w', h1, h2⟩ := hf y w z hky
      exact ⟨w', h1, h2.move tt⟩
  · rcases mem _ hy with z | ⟨z, ne⟩
    · cases z; exact ⟨c, u, hc, hv', r.move tt⟩
    · obtain ⟨d, w', h1, h2, h3⟩ := S.frame.cells y w z hky
      exact ⟨d, w', h1, cellk y d _ ne h1 h2, h3.move tt⟩
  · by_cases ne : y = x
    · subst ne; exact ⟨c, _, hc, hv'⟩
    · obtain ⟨d, v₁, h1, h2⟩ := S.frame.laid y hky
      exact ⟨d, v₁, h1, cellk y d _ ne h1 h2⟩
noncomputable def bindable (env : Env) (x : Str) : Bool := (env.kindOf x == some .local || env.kindOf x == some .cell) && okName x
theorem st_name {s : Shared} (S : SmF X m σ s) {x : Str} {v : MV} {u : Value} (hk : bindable X.env x = true) (hS : SetM m x v m') (r : VR s.heap v u) {Q : Unit → Shared → Prop} {E : Value → Shared → Prop}
    (q : ∀ s', SmF X m' σ s' → Tr X.fs X.own σ s.heap σ s'.heap → Q () s') : wpAny X.C.M X.A (storeName X.env x u) Q E s := by
  obtain ⟨a, b⟩ := Bool.and_eq_true_iff.mp hk
  rcases Bool.or_eq_true_iff.mp a with a | a
  · exact st_local S (beq_iff_eq.mp a) b hS r fun s' S' T _ => q s' S' T
  · exact st_cell S (beq_iff_eq.mp a) b hS r q
end
section
variable {X : Fx} {m : Loc} {σ : MHeap} {K : FlowM → Loc → MHeap → Prop} {KE : Value → Loc → MHeap → Prop}
noncomputable def bindK (X : Fx) (m : Loc) (x : Str) (v : MV) (K : Loc → Prop) : Prop := bindable X.env x = true ∧ ∃ m', SetM m x v m' ∧ K m'
theorem bk_old {x v m'} {K : Loc → Prop} (hk : bindable X.env x = true) (hu : Upd m x v m') (h : K m') : bindK X m x v K := ⟨hk, m', .old hu, h⟩
theorem bk_new {x v} {K : Loc → Prop} (hk : bindable X.env x = true) (hn : (m.any fun p => p.1 == x) = false) (h : K ((x, v) :: m)) : bindK X m x v K := ⟨hk, _, .new hn, h⟩
theorem bk_oldS {x v m'} {K : Loc → Prop} (hu : Upd m x v m') (hk : bindable X.env x = true) (h : K m') : bindK X m x v K := bk_old hk hu h
theorem bk_newS {x v} {K : Loc → Prop} (hk : bindable X.env x = true) (hn : (m.any fun p => p.1 == x) = false) (h : K ((x, v) :: m)) : bindK X m x v K := bk_new hk hn h
noncomputable abbrev AsT (X : Fx) (m : Loc) (σ : MHeap) (t : Expr) (v : MV) (K : Loc → MHeap → Prop) (KE : Value → Loc → MHeap → Prop) : Prop := ∀ u, RunL X m σ UR (fun h => VR h v u) (assign t X.env u) (fun _ m' σ' => K m' σ') KE
theorem as_name {x p v} {K : Loc → MHeap → Prop} (h : bindK X m x v (fun m' => K m' σ)) : AsT X m σ (.Name x p) v K KE := fun u s S r Q E q e =>
  let ⟨hk, m', hS, h⟩ := h
  wpAny_assign_Name (st_name S hk hS r fun s' S' T => q () () _ _ _ h S' T trivial)
theorem r1_Assign_name {x p value pos} (hs : swapsWith value (some (.Name x p)) pos.line X.env = pure false) (h : EvE X m σ value (fun v σ₁ => bindK X m x v (fun m' => K .next m' σ₁)) (fun x σ' => KE x m σ')) :
    Run1 X m σ (.Assign [.Name x p] value pos) K KE := fun s S _ Q E q e =>
  wpAny_Assign_Name (h s S trivial _ E (fun a v σ₁ s₁ h₁ S₁ T₁ r₁ => by
    obtain ⟨hk, m', hS, h₁⟩ := h₁
    exact st_name S₁ hk hS r₁ fun s' S' T => q _ .next _ _ _ h₁ S' (T₁.own.trans T) rfl) (e.er m)) hs
noncomputable abbrev SetA (X : Fx) (m : Loc) (σ : MHeap) (name : Str) (a b : MV) (K : MHeap → Prop) (KE : Value → MHeap → Prop) : Prop := ∀ o u, RunE X m σ UR (fun h => VR h a o ∧ VR h b u) (setAttr o name u) (fun _ σ' => K σ') KE
theorem r1_Assign_attr {o attr p value pos} (hs : swapsWith value (some (.Attribute o attr p)) pos.line X.env = pure false)
    (h : EvE X m σ value (fun v σ₁ => EvE X m σ₁ o (fun ov σ₂ => SetA X m σ₂ attr ov v (fun σ₃ => K .next m σ₃) (fun x σ' => KE x m σ')) (fun x σ' => KE x m σ')) (fun x σ' => KE x m σ')) :
    Run1 X m σ (.Assign [.Attribute o attr p] value pos) K KE := fun s S _ Q E q e =>
  plainObj_wpAny_Assign_Attribute (h s S trivial _ E (fun a v σ₁ s₁ h₁ S₁ T₁ r₁ => h₁ s₁ S₁ trivial _ E (fun b ov σ₂ s₂ h₂ S₂ T₂ r₂ =>
    h₂ b a s₂ S₂ ⟨r₂, r₁.move (S₁.fx T₂)⟩ _ E (fun _ _ σ₃ s₃ k S₃ T₃ _ => q _ .next m _ _ k S₃ ((T₁.trans T₂).trans T₃).own rfl) (((e.er m).after T₁).after T₂)) ((e.er m).after T₁)) (e.er m)) hs
noncomputable abbrev SetI (X : Fx) (m : Loc) (σ : MHeap) (a i b : MV) (K : MHeap → Prop) (KE : Value → MHeap → Prop) : Prop := ∀ o j u, RunE X m σ UR (fun h => VR h a o ∧ VR h i j ∧ VR h b u) (setItem o j u) (fun _ σ' => K σ') KE
theorem r1_Assign_sub {o i p value pos} (hs : swapsWith value (some (.Subscript o i p)) pos.line X.env = pure false)
    (h : EvE X m σ value (fun v σ₁ => EvE X m σ₁ o (fun ov σ₂ => EvE X m σ₂ i (fun iv σ₃ => SetI X m σ₃ ov iv v (fun σ₃ => K .next m σ₃) (fun x σ' => KE x m σ')) (fun x σ' => KE x m σ')) (fun x σ' => KE x m σ')) (fun x σ' => KE x m σ')) :
    Run1 X m σ (.Assign [.Subscript o i p] value pos) K KE := fun s S _ Q E q e =>
  wpAny_Assign_Subscript (h s S trivial _ E (fun a v σ₁ s₁ h₁ S₁ T₁ r₁ => h₁ s₁ S₁ trivial _ E (fun b ov σ₂ s₂ h₂ S₂ T₂ r₂ => h₂ s₂ S₂ trivial _ E (fun c iv σ₃ s₃ h₃ S₃ T₃ r₃ =>
    h₃ b c a s₃ S₃ ⟨r₂.move (S₂.fx T₃), r₃, (r₁.move (S₁.fx T₂)).move (S₂.fx T₃)⟩ _ E (fun _ _ σ₄ s₄ k S₄ T₄ _ => q _ .next m _ _ k S₄ (((T₁.trans T₂).trans T₃).trans T₄).own rfl) ((((e.er m).after T₁).after T₂).after T₃)) (((e.er m).after T₁).after T₂)) ((e.er m).after T₁)) (e.er m)) hs
theorem r1_Expr {x pos} (hi : interactive X.env = false) (hs : swapsWith x none pos.line X.env = pure false) (h : EvE X m σ x (fun v σ₁ => (∀ hp u, VR hp v u → ∀ a, u ≠ .ref a) ∧ K .next m σ₁) (fun x σ' => KE x m σ')) : Run1 X m σ (.Expr x pos) K KE := fun s S _ Q E q e =>
  wpAny_Expr (h s S trivial _ E (fun a v σ₁ s₁ h₁ S₁ T₁ r₁ => by
    have n := h₁.1 _ _ r₁
    cases a <;> first | exact q _ .next m _ _ h₁.2 S₁ T₁.own rfl | exact (n _ rfl).elim) (e.er m)) hi hs
theorem noref_none : ∀ hp u, VR hp .none u → ∀ a, u ≠ .ref a := fun hp u r a => by obtain rfl := VR.none r; nofun
theorem r1_Aug_name {x p op value pos v₀} (hv : (x, v₀) ∈ m) (h : EvE X m σ value (fun v σ₁ => Op2 X m σ₁ VR (inplaceOp op) v₀ v (fun r σ₂ => bindK X m x r (fun m' => K .next m' σ₂)) (fun x σ' => KE x m σ')) (fun x σ' => KE x m σ')) :
    Run1 X m σ (.AugAssign (.Name x p) op value pos) K KE := fun s S _ Q E q e =>
  wpAny_AugAssign_Name (ld_var S hv fun a r => h s S trivial _ E (fun b v σ₁ s₁ h₁ S₁ T₁ r₁ => h₁ a b s₁ S₁ ⟨r.move (S.fx T₁), r₁⟩ _ E (fun c w σ₂ s₂ h₂ S₂ T₂ r₂ => by
    obtain ⟨hk, m', hS, h₂⟩ := h₂
    exact st_name S₂ hk hS r₂ fun s' S' T => q _ .next _ _ _ h₂ S' ((T₁.trans T₂).own.trans T) rfl) ((e.er m).after T₁)) (e.er m))
theorem r1_Aug_sub {o i tp op value pos} (h : EvE X m σ o (fun ov σ₁ => EvE X m σ₁ i (fun iv σ₂ => Op2 X m σ₂ VR (fun a b => getItem a b) ov iv (fun old σ₃ => EvE X m σ₃ value (fun v σ₄ => Op2 X m σ₄ VR (inplaceOp op) old v (fun r σ₅ => SetI X m σ₅ ov iv r (fun σ₆ => K .next m σ₆) (fun x σ' => KE x m σ'))
      (fun x σ' => KE x m σ')) (fun x σ' => KE x m σ')) (fun x σ' => KE x m σ')) (fun x σ' => KE x m σ')) (fun x σ' => KE x m σ'))
    (hi : ∀ ov iv new, augStore i ov iv new = (do holding [new, ov, iv] (setItem ov iv new); release [new, ov, iv] []; pure .next)) : Run1 X m σ (.AugAssign (.Subscript o i tp) op value pos) K KE := fun s S _ Q E q e =>
  wpAny_AugAssign_SubscriptAny (h s S trivial _ E (fun b ov σ₁ s₁ h₁ S₁ T₁ r₁ => h₁ s₁ S₁ trivial _ E (fun c iv σ₂ s₂ h₂ S₂ T₂ r₂ => h₂ b c s₂ S₂ ⟨r₁.move (S₁.fx T₂), r₂⟩ _ E (fun d old σ₃ s₃ h₃ S₃ T₃ r₃ => h₃ s₃ S₃ trivial _ E (fun a v σ₄ s₄ h₄ S₄ T₄ r₄ =>
    h₄ d a s₄ S₄ ⟨r₃.move (S₃.fx T₄), r₄⟩ _ E (fun f w σ₅ s₅ h₅ S₅ T₅ r₅ => h₅ b c f s₅ S₅ ⟨(((r₁.move (S₁.fx T₂)).move (S₂.fx T₃)).move (S₃.fx T₄)).move (S₄.fx T₅), ((r₂.move (S₂.fx T₃)).move (S₃.fx T₄)).move (S₄.fx T₅), r₅⟩ _ E
      (fun _ _ σ₆ s₆ k S₆ T₆ _ => q _ .next m _ _ k S₆ (((((T₁.trans T₂).trans T₃).trans T₄).trans T₅).trans T₆).own rfl) ((((((e.er m).after T₁).after T₂).after T₃).after T₄).after T₅)) (((((e.er m).after T₁).after T₂).after T₃).after T₄))
    ((((e.er m).after T₁).after T₂).after T₃)) (((e.er m).after T₁).after T₂)) ((e.er m).after T₁)) (e.er m)) hi
end
end Mine
namespace Mine
theorem entry_unchain : entryFor table "proto.unchain" = some Builtin.«proto.unchain» := entryFor_of_fast (by kernel_rfl)
theorem plain_unchain : plainId "proto.unchain" = true := by decide +kernel
theorem Chain.cons {h : Heap} {e : Addr} {l : List Addr} (c : Chain h e l) : ∃ o vs t, l = e :: t ∧ h.get? e = some o ∧ o.data = .fields vs ∧ ((t = [] ∧ vs[2]? = some .none) ∨ ∃ e', vs[2]? = some (.ref e') ∧ Chain h e' t ∧ e ∉ t) := by
  cases c with
  | last ho hd h2 => exact ⟨_, _, [], rfl, ho, hd, .inl ⟨rfl, h2⟩⟩
  | next ho hd h2 r hn => exact ⟨_, _, _, rfl, ho, hd, .inr ⟨_, h2, r, hn⟩⟩
theorem Chain.nodup {h : Heap} {e : Addr} {l : List Addr} (c : Chain h e l) : l.Nodup := by
  induction c with
  | last => simp
  | next ho hd h2 r hn ih => exact List.nodup_cons.mpr ⟨hn, ih⟩
section
variable {prog : Program} {w : World} {A : Around} {s : Shared}
theorem unchain_ok {R : Result → Shared → Prop} {v : Addr} (h : R (.ok (.ret .none)) s) : ∀ (l : List Addr) (o slow : Addr) (ls : List Addr) (tg : Bool), Chain s.heap o l → Chain s.heap slow ls → l <:+ ls → v ∉ l →
    codeAny (model prog w) A (.builtin "proto.unchain" ⟨[.ref v, .ref o, .ref slow, .bool tg], []⟩) R s
  | [], o, slow, ls, tg, c, _, _, _ => by obtain ⟨_, _, _, q, _⟩ := c.cons; cases q
  | a :: t, o, slow, ls, tg, c, cs, suf, nv => codeAny_builtin entry_unchain (by
    rw [Around.under_plainId plain_unchain]
    obtain ⟨ob, vs, t', q, ho, hd, alt⟩ := c.cons
    obtain ⟨rfl, rfl⟩ := List.cons.inj q
    show wpAny _ _ (field (.ref a) 2 >>= _) _ _ s
    rcases alt with ⟨rfl, h2⟩ | ⟨e', h2, r, hn⟩
    · refine wpAny_bind (wpAny_field ho hd h2 ?_)
      rw [if_pos (by decide)]
      first
        | (refine wpAny_bind (wpAny_pure (wpAny_pure ?_)); exact h)
        | (refine wpAny_pure ?_; exact h)
    · refine wpAny_bind (wpAny_field ho hd h2 ?_)
      rw [if_neg (show ¬ ((Value.ref e' == Value.none) = true) from by simp)]
      obtain ⟨_, _, t2, rfl, _⟩ := id r.cons
      have ne : e' ≠ v := fun z => nv (z ▸ .tail _ (.head _))
      rw [if_neg (show ¬ ((Value.ref e' == Value.ref v) = true) from by simpa using ne)]
      obtain ⟨os, ws, ts, rfl, hso, hsd, alts⟩ := cs.cons
      have nds := cs.nodup
      have insl : e' ∈ ts := by
        obtain ⟨p, hp⟩ := suf
        cases p with
        | nil => obtain ⟨rfl, rfl⟩ := List.cons.inj hp; exact .head _
        | cons b p' =>
          obtain ⟨rfl, rfl⟩ := List.cons.inj hp
          exact List.mem_append_right _ (.tail _ (.head _))
      have ns : e' ≠ slow := fun z => (List.nodup_cons.mp nds).1 (z ▸ insl)
      rw [if_neg (show ¬ ((Value.ref e' == Value.ref slow) = true) from by simpa using ns)]
      cases tg with
      | false =>
        refine wpAny_bind (wpAny_pure (wpAny_pure ⟨plainId_quiet plain_unchain _, ?_⟩))
        exact unchain_ok h (e' :: t2) e' slow (slow :: ts) true r cs ((List.suffix_cons _ _).trans suf) fun z => nv (.tail _ z)
      | true =>
        rcases alts with ⟨rfl, _⟩ | ⟨s', hs2, rs, hns⟩
        · cases insl
        · refine wpAny_bind (wpAny_field hso hsd hs2 (wpAny_pure ⟨plainId_quiet plain_unchain _, ?_⟩))
          refine unchain_ok h (e' :: t2) e' s' ts false r rs ?_ fun z => nv (.tail _ z)
          obtain ⟨p, hp⟩ := suf
          cases p with
          | nil => obtain ⟨rfl, rfl⟩ := List.cons.inj hp; exact List.suffix_refl _
          | cons b p' =>
            obtain ⟨rfl, rfl⟩ := List.cons.inj hp
            exact (List.suffix_cons _ _).trans (List.suffix_append _ _))
end
noncomputable def raisedH (hd : Option Value) (a : Addr) (h : Heap) : Heap := match hd with
  | none => h
  | some v => h.update a (Obj.mapFields (·.setIfInBounds 2 v))
theorem raisedH_other {hd : Option Value} {a b : Addr} {h : Heap} (n : b ≠ a) : (raisedH hd a h).get? b = h.get? b := by
  cases hd with
  | none => rfl
  | some v => exact Heap.get?_update_other _ _ (Ne.symm n)
theorem raisedH_self {hd : Option Value} {a : Addr} {h : Heap} {o : Obj} {vs : Array Value} (ho : h.get? a = some o) (hd' : o.data = .fields vs) : ∃ o', (raisedH hd a h).get? a = some o' ∧ o'.cls = o.cls ∧ o'.data = .fields (match hd with | none => vs | some v => vs.setIfInBounds 2 v) := by
  cases hd with
  | none => exact ⟨o, ho, rfl, hd'⟩
  | some v => exact ⟨_, Heap.get?_update_self _ ho (Obj.isFreed_of_fields (Obj.data_mapFields hd' _)), Obj.cls_mapFields _ _, Obj.data_mapFields hd' _⟩
noncomputable def Apart (hd : Option Value) (a : Addr) (h : Heap) : Prop := ∀ v, hd = some v → ∃ e l, v = .ref e ∧ Chain h e l ∧ a ∉ l
section
variable {prog : Program} {w : World} {A : Around} {s : Shared} {E : Value → Shared → Prop} {α : Type}
theorem raise_any {a : Addr} {o : Obj} {vs : Array Value} {Q : α → Shared → Prop} (hok : Apart A.handled a s.heap) (ho : s.heap.get? a = some o) (hd : o.data = .fields vs) (hz : 2 < vs.size)
    (h : E (.ref a) { s with heap := raisedH A.handled a s.heap }) : wpAny (model prog w) A (raiseNew (.ref a)) Q E s := by
  unfold raiseNew
  refine wpAny_bind (wpAny_handled ?_)
  unfold raisedH at h
  cases e : A.handled with
  | none => rw [e] at h; exact wpAny_bind (wpAny_pure (wpAny_throw h))
  | some v =>
    rw [e] at h
    obtain ⟨x, l, rfl, c, n⟩ := hok v e
    have ne : x ≠ a := fun z => n (z ▸ c.head)
    show wpAny _ A (if (Value.ref x != Value.ref a) = true then _ else _) _ _ s
    rw [if_pos (by simpa using ne)]
    refine wpAny_bind (wpAny_holding (wpAny_runValue (unchain_ok ?_ l x x l false c c (List.suffix_refl _) n)))
    exact wpAny_bind (wpAny_setField ho hd hz (wpAny_throw h))
theorem Chain.same {h h' : Heap} {e : Addr} {l : List Addr} (c : Chain h e l) (k : ∀ b ∈ l, h'.get? b = h.get? b) : Chain h' e l := by
  induction c with
  | last ho hd h2 => exact .last ((k _ (.head _)).trans ho) hd h2
  | next ho hd h2 r hn ih => exact .next ((k _ (.head _)).trans ho) hd h2 (ih fun b hb => k b (.tail _ hb)) hn
theorem Apart.on {hd : Option Value} {a b : Addr} {h h' : Heap} (p : Apart hd a h) (k : ∀ c o, c ≠ a → h.get? c = some o → h'.get? c = some o) (n : h.get? b = none) : Apart hd b h' := fun v hv => by
  obtain ⟨e, l, q, c, na⟩ := p v hv
  refine ⟨e, l, q, c.same fun x hx => ?_, fun z => ?_⟩
  · obtain ⟨o, ho⟩ := c.there x hx
    rw [ho]
    exact k x o (fun z => na (z ▸ hx)) ho
  · obtain ⟨o, ho⟩ := c.there b z
    rw [n] at ho; cases ho
theorem raisedH_keep {hd : Option Value} {a : Addr} {h : Heap} {b : Addr} {o : Obj} (hb : h.get? b = some o) (n : b ≠ a) : (raisedH hd a h).get? b = some o := (raisedH_other n).trans hb
theorem stop_any {it : Addr} {f : Obj → Obj} {E' : Value → Shared → Prop} {o : Obj} (hp : Apart A.handled it s.heap) (ho : s.heap.get? it = some o)
    (q : ∀ h' e o', Heap.ExtBut it s.heap h' → h'.get? e = some o' → o'.cls = .type "StopIteration" → E' (.ref e) { s with heap := h' }) :
    wpAny (model prog w) A (do raiseNew (← newExc (.type "StopIteration") []) : Sem α) (fun _ _ => False) E' { s with heap := s.heap.update it f } := by
  have up : ∀ b o, b ≠ it → s.heap.get? b = some o → (s.heap.update it f).get? b = some o := fun b o n z => (Heap.get?_update_other _ _ (Ne.symm n)).trans z
  refine wpAny_bind ?_
  simp only [newExc, newTuple]
  refine wpAny_bind (wpAny_newObj_type ?_ (by size_fits))
  refine wpAny_bind (m := firstArgMember _ _) (wpAny_of_eq (a := Value.none) (by first | rfl | (simp only [firstArgMember]; rfl)) ?_)
  refine wpAny_newObj_type ?_ (by size_fits)
  have k2 : ∀ b o, b ≠ it → s.heap.get? b = some o → (((s.heap.update it f).push { cls := .type "tuple", data := .seq (List.toArray []) }).push { cls := .type "StopIteration", data := .fields (#[.ref (s.heap.update it f).objs.size, .none, .none, .none, .bool false, .none] ++ ownMembersOf (.type "StopIteration") []) }).get? b = some o :=
    fun b o n z => Heap.get?_push_of_some _ (Heap.get?_push_of_some _ (up b o n z))
  have fr : s.heap.get? ((s.heap.update it f).push { cls := .type "tuple", data := .seq (List.toArray []) }).objs.size = none := by
    cases z : s.heap.get? ((s.heap.update it f).push { cls := .type "tuple", data := .seq (List.toArray []) }).objs.size with
    | none => rfl
    | some o' =>
      by_cases e : ((s.heap.update it f).push { cls := .type "tuple", data := .seq (List.toArray []) }).objs.size = it
      · have h1 := Heap.lt_size ho
        have h2 : (s.heap.update it f).objs.size = s.heap.objs.size := Heap.size_update _ _ _
        rw [Heap.size_push, h2] at e
        rw [← e] at h1
        exact absurd (Nat.lt_of_succ_lt h1) (Nat.lt_irrefl _)
      · exact absurd (Heap.lt_size (Heap.get?_push_of_some _ (up _ _ e z))) (Nat.lt_irrefl _)
  refine raise_any (hp.on k2 fr) (Heap.get?_push_size _ rfl) rfl (by simp; omega) ?_
  obtain ⟨o', h1, h2, _⟩ := raisedH_self (hd := A.handled) (Heap.get?_push_size ((s.heap.update it f).push { cls := .type "tuple", data := .seq (List.toArray []) }) (o := { cls := .type "StopIteration", data := .fields (#[.ref (s.heap.update it f).objs.size, .none, .none, .none, .bool false, .none] ++ ownMembersOf (.type "StopIteration") []) }) rfl) rfl
  exact q _ _ o' (fun b o n z => raisedH_keep (k2 b o n z) fun e => by rw [e, fr] at z; cases z) h1 h2
theorem next_list_end {it l : Addr} {i : Nat} {items : Array Value} {Q : Option Value → Shared → Prop} (hp : Apart A.handled it s.heap) (hit : s.heap.IsListIter it l i) (hl : s.heap.IsList l items) (hx : items[i]? = none)
    (hQ : ∀ h', Heap.ExtBut it s.heap h' → Q none { s with heap := h' }) : wpAny (model prog w) A (pyNext (.ref it)) Q E s := by
  obtain ⟨o, ho, hc, hd⟩ := id hit
  obtain ⟨ol, hol, _, nl, hdl⟩ := hl
  unfold pyNext
  refine wpAny_bind (wpAny_attempt (wpAny_callSpecial?_slot (name := Str.ofString "__next__") hit.typeIs slot_listiter_next
    (wpAny_call_entry slot_listiter_next hit.typeIs entry_listiter_next ?_ (args_listiter_next _))))
  show wpAny _ _ (field (.ref it) 0 >>= _) _ _ s
  refine wpAny_bind (wpAny_field ho hd (x := .ref l) rfl ?_)
  show wpAny _ _ (if (Value.ref l == Value.none) = true then _ else _) _ _ s
  rw [if_neg (show ¬ ((Value.ref l == Value.none) = true) from Bool.false_ne_true)]
  show wpAny _ _ (field (.ref it) 1 >>= _) _ _ s
  refine wpAny_bind (wpAny_field ho hd (x := .int i 0) rfl ?_)
  show wpAny _ _ (seqItems? (.ref l) >>= _) _ _ s
  refine wpAny_bind (wpAny_seqItems hol hdl ?_)
  simp only [Int.toNat_natCast, hx]
  refine wpAny_bind (wpAny_rule (wpAny_bind (wpAny_setField ho hd (by simp) ?_)))
  refine wpAny_mono (stop_any (A := A.in1) hp ho fun h' e o' ex h1 h2 => ?_) (fun _ _ z => z.elim) (fun _ _ z => z)
  refine wpAny_bind (wpAny_isInstance (T := "StopIteration") (b := true) ⟨o', h1, h2⟩ isSubtype_stop ?_)
  exact wpAny_pure (hQ _ ex)
theorem next_tuple_end {it l : Addr} {i : Nat} {items : Array Value} {Q : Option Value → Shared → Prop} (hp : Apart A.handled it s.heap) (hit : s.heap.IsTupleIter it l i) (hl : s.heap.IsTuple l items) (hx : items[i]? = none)
    (hQ : ∀ h', Heap.ExtBut it s.heap h' → Q none { s with heap := h' }) : wpAny (model prog w) A (pyNext (.ref it)) Q E s := by
  obtain ⟨o, ho, hc, hd⟩ := id hit
  obtain ⟨ol, hol, _, nl, hdl⟩ := hl
  unfold pyNext
  refine wpAny_bind (wpAny_attempt (wpAny_callSpecial?_slot (name := Str.ofString "__next__") hit.typeIs PySem.F.slot_tuple_iterator_next
    (wpAny_call_entry PySem.F.slot_tuple_iterator_next hit.typeIs PySem.F.entry_tuple_iterator_next ?_ (PySem.F.args_tuple_iterator_next_1 _))))
  show wpAny _ _ (field (.ref it) 0 >>= _) _ _ s
  refine wpAny_bind (wpAny_field ho hd (x := .ref l) rfl ?_)
  show wpAny _ _ (if (Value.ref l == Value.none) = true then _ else _) _ _ s
  rw [if_neg (show ¬ ((Value.ref l == Value.none) = true) from Bool.false_ne_true)]
  show wpAny _ _ (field (.ref it) 1 >>= _) _ _ s
  refine wpAny_bind (wpAny_field ho hd (x := .int i 0) rfl ?_)
  show wpAny _ _ (seqItems? (.ref l) >>= _) _ _ s
  refine wpAny_bind (wpAny_seqItems hol hdl ?_)
  simp only [Int.toNat_natCast, hx]
  refine wpAny_bind (wpAny_rule (wpAny_bind (wpAny_setField ho hd (by simp) ?_)))
  refine wpAny_mono (stop_any (A := A.in1) hp ho fun h' e o' ex h1 h2 => ?_) (fun _ _ z => z.elim) (fun _ _ z => z)
  refine wpAny_bind (wpAny_isInstance (T := "StopIteration") (b := true) ⟨o', h1, h2⟩ isSubtype_stop ?_)
  exact wpAny_pure (hQ _ ex)
theorem unpack_any {env : Env} {elts : List Expr} {x1} {pos : Pos} {t : Addr} {items : Array Value} {Q : Unit → Shared → Prop} (hok : HOk A.handled s.heap) (ht : s.heap.IsTuple t items)
    (hn : (assignEach elts env).length = items.size) (hstar : (assignEach elts env).findIdx? (·.1) = none)
    (h : ∀ h', Heap.ExtBut s.heap.objs.size s.heap h' → wpAny (model prog w) A (assignInOrder ((assignEach elts env).map (·.2)) items.toList) Q E { s with heap := h' }) :
    wpAny (model prog w) A (assign (.Tuple elts x1 pos) env (.ref t)) Q E s := by
  rw [arm_assign_Tuple]
  refine wpAny_bind (wpAny_standAt ?_)
  have hlt : t ≠ s.heap.objs.size := by obtain ⟨o, ho, _⟩ := ht; exact Nat.ne_of_lt (Heap.lt_size ho)
  unfold unpack
  rw [hn, hstar]
  refine wpAny_bind (wpAny_holding ?_)
  unfold unpackItems
  refine wpAny_bind ?_
  unfold notIterableAtAll
  refine wpAny_bind (wpAny_specialOf ht.typeIs PySem.F.slot_tuple_iter.lookup ?_)
  refine wpAny_pure ?_
  simp only [Bool.false_eq_true, if_false]
  refine wpAny_bind (wpAny_holding (wpAny_pyIter_tuple ht ?_))
  refine wpAny_bind (wpAny_holding (wpAny_draw_tuple hlt items.size 0 _ _ ⟨_, Heap.get?_push_size _ rfl, rfl, rfl⟩ (ht.push _) (by omega) fun h₁ hit₁ hs₁ => ?_))
  rw [show List.take items.size (List.drop 0 items.toList) = items.toList from by rw [List.drop_zero]; exact List.take_of_length_le (by simp)]
  rw [if_neg (by simp)]
  have ht₁ : h₁.IsTuple t items := (ht.push _).extBut hs₁.extBut hlt
  have kp : ∀ b o, s.heap.get? b = some o → h₁.get? b = some o := fun b o z => hs₁.extBut b o (Nat.ne_of_lt (Heap.lt_size z)) (Heap.get?_push_of_some _ z)
  refine wpAny_bind (wpAny_holding (next_tuple_end (s := { s with heap := h₁ }) (fun v hv => ?_) hit₁ ht₁ (by simp) fun h₂ he₂ => ?_))
  · obtain ⟨e, l, q, c⟩ := hok v hv
    refine ⟨e, l, q, c.same fun b hb => ?_, fun z => ?_⟩
    · obtain ⟨o, ho⟩ := c.there b hb
      rw [ho]; exact kp b o ho
    · obtain ⟨o, ho⟩ := c.there _ z
      exact absurd (Heap.lt_size ho) (Nat.lt_irrefl _)
  · simp only [Option.isSome_none, Bool.false_eq_true, if_false]
    exact wpAny_pure (h h₂ fun b o hb e => he₂ b o hb (hs₁.extBut b o hb (Heap.get?_push_of_some _ e)))
end
end Mine
namespace Mine
section
variable {X : Fx} {m : Loc} {σ : MHeap} {KE : Value → MHeap → Prop}
theorem Cx.sys (C : Cx) : ∃ o, C.g.get? sysModules = some o := by
  obtain ⟨mm, ⟨o, _, _, ho, _⟩, _⟩ := C.hseer.mods
  exact ⟨o, ho⟩
theorem SmF.notSys {s : Shared} (S : SmF X m σ s) {d : Addr} (dm : σ.Dom d) : (d == sysModules) = false := by
  cases z : d == sysModules with
  | false => rfl
  | true =>
    exfalso
    have : d = sysModules := by simpa using z
    obtain ⟨o, ho⟩ := X.C.sys
    have := S.sep d dm
    subst d
    rw [ho] at this; cases this
theorem SmF.list {s : Shared} (S : SmF X m σ s) {a : Addr} {l : List MV} (hl : σ.L a = some l) : ∃ vs n, s.heap.get? a = some (listOf vs n) ∧ VRs s.heap l vs.toList ∧ s.heap.IsList a vs ∧ s.TypeIs (.ref a) "list" ∧ vs.size = l.length := by
  obtain ⟨vs, n, e, r⟩ := S.objs.L a l hl
  exact ⟨vs, n, e, r, ⟨_, e, rfl, n, rfl⟩, ⟨_, e, rfl⟩, by rw [← r.length]; simp⟩
theorem domL {a : Addr} {l : List MV} (hl : σ.L a = some l) : σ.Dom a := .inr (.inl (by rw [hl]; nofun))
theorem domD {a : Addr} {l : List (Int × MV)} (hl : σ.D a = some l) : σ.Dom a := .inr (.inr (.inl (by rw [hl]; nofun)))
theorem domS {a : Addr} {l : List (Str × MV)} (hl : σ.S a = some l) : σ.Dom a := .inr (.inr (.inr (by rw [hl]; nofun)))
theorem domI {a : Addr} {x} (hl : σ.I a = some x) : σ.Dom a := .inl (by rw [hl]; nofun)
theorem SmF.putL {s : Shared} (S : SmF X m σ s) {a : Addr} {l l' : List MV} {h' : Heap} {vs : Array Value} {n tk : Nat} (hl : σ.L a = some l) (hs : Heap.ExtBut a s.heap h') (e : h'.get? a = some (listOf vs n)) (r : VRs s.heap l' vs.toList) :
    SmF X m (σ.setL a l') { s with heap := h', toks := tk } ∧ Tr X.fs [] σ s.heap (σ.setL a l') h' := by
  have T : Tr X.fs [] σ s.heap (σ.setL a l') h' := Tr.at (domL hl) (fun b o hb g => hs b o hb g) ⟨_, e⟩ SameOff.setL
  exact ⟨S.stepE T (S.objs.upd (fun b o hb g => hs b o hb g) (fun o g f => by
    obtain ⟨o', e', z⟩ := S.objs.notFixed (domL hl); rw [g] at e'; cases e'; exact z f) SameOff.setL (AtD.list S.objs (.inl ⟨l, hl⟩) e (r.move (S.fx T)))), T⟩
theorem gm_list {a : Addr} {l : List MV} {name : Str} {id : String} {pl : Sem Bool} {K} (hl : σ.L a = some l) (slot : Slot "list" name id) (hty : typeOf (.builtin id) = pure (.type "method_descriptor")) (h : K (.builtin id) [.ref a] σ) : GetM X m σ name pl (.ref a) K KE := fun o s S p Q E q e => by
  obtain rfl := VR.ref p
  obtain ⟨vs, n, ho, r, il, ty, _⟩ := S.list hl
  exact getMethod_builtin ty PySem.F.plainAttrs_list slot hty (fun b z => by cases z; exact ⟨_, ho, rfl⟩) (q _ (.builtin id, [.ref a]) σ _ h S Tr.refl ⟨rfl, VRs.cons VR.ofRef VRs.nil⟩)
theorem VRs.one {h : Heap} {a : MV} {vs : List Value} (r : VRs h [a] vs) : ∃ v, vs = [v] ∧ VR h a v := by
  unfold VRs at r
  obtain ⟨v, t, rfl, hv, ht⟩ := r
  unfold VRs at ht; subst ht; exact ⟨v, rfl, hv⟩
theorem VRs.two {h : Heap} {a b : MV} {vs : List Value} (r : VRs h [a, b] vs) : ∃ v u, vs = [v, u] ∧ VR h a v ∧ VR h b u := by
  unfold VRs at r
  obtain ⟨v, t, rfl, hv, ht⟩ := r
  obtain ⟨u, rfl, hu⟩ := VRs.one ht
  exact ⟨v, u, rfl, hv, hu⟩
theorem VRs.three {h : Heap} {a b c : MV} {vs : List Value} (r : VRs h [a, b, c] vs) : ∃ v u w, vs = [v, u, w] ∧ VR h a v ∧ VR h b u ∧ VR h c w := by
  unfold VRs at r
  obtain ⟨v, t, rfl, hv, ht⟩ := r
  obtain ⟨u, w, rfl, hu, hw⟩ := VRs.two ht
  exact ⟨v, u, w, rfl, hv, hu, hw⟩
theorem VRs.no {h : Heap} {vs : List Value} (r : VRs h [] vs) : vs = [] := by unfold VRs at r; exact r
theorem KVs.no {α : Type} {h : Heap} {vs : List (α × Value)} (r : KVs h [] vs) : vs = [] := r
theorem cv_append {a : Addr} {l : List MV} {v : MV} {K} (hl : σ.L a = some l) (hz : l.length ≤ 1000000) (h : K .none (σ.setL a (l ++ [v]))) : CallV X m σ (.builtin "list.append") [.ref a, v] [] K KE := fun vals kw s S p Q E q e => by
  obtain ⟨o, u, rfl, ho, hu⟩ := VRs.two p.1
  obtain rfl := VR.ref ho
  obtain rfl := KVs.no p.2
  obtain ⟨vs, n, hg, r, il, ty, hn⟩ := S.list hl
  refine wpAny_list_append_plain (hsz := by rw [hn, sizeLine_eq]; omega) ⟨n, hg⟩ fun h' ⟨n', e'⟩ hs => ?_
  obtain ⟨S', T'⟩ := S.putL (tk := s.toks) (l' := l ++ [v]) hl hs.extBut e' (by rw [Array.toList_push]; exact VRs.append r (VRs.cons hu VRs.nil))
  exact q _ .none _ _ h S' T' VR.ofNone
theorem list_insert_eq (xs : Array Value) (k : Nat) (y : Value) (hk : k ≤ xs.size) : ((xs.extract 0 k).push y ++ xs.extract k).toList = xs.toList.take k ++ y :: xs.toList.drop k := by
  obtain ⟨l⟩ := xs
  simp [List.extract_eq_take_drop, List.take_of_length_le]
theorem mapSeq_list (f : Array Value → Array Value) (vs : Array Value) (n : Nat) : ∃ n', Obj.mapSeq f (listOf vs n) = listOf (f vs) n' := ⟨_, rfl⟩
theorem upd_list {h : Heap} {a : Addr} {vs us : Array Value} {n : Nat} {f : Array Value → Array Value} (e : h.get? a = some (listOf vs n)) (hf : f vs = us) : ∃ n', (h.update a (Obj.mapSeq f)).get? a = some (listOf us n') := by
  obtain ⟨n', z⟩ := mapSeq_list f vs n
  exact ⟨n', by rw [Heap.get?_update_self _ e (by rw [z]; rfl), z, hf]⟩
theorem cv_insert {a : Addr} {l : List MV} {v : MV} {i : Int} {K} (hl : σ.L a = some l) (hz : l.length ≤ 1000000) (h0 : 0 ≤ i) (hi : i ≤ l.length) (h : K .none (σ.setL a (l.take i.toNat ++ v :: l.drop i.toNat))) : CallV X m σ (.builtin "list.insert") [.ref a, .int i, v] [] K KE := fun vals kw s S p Q E q e => by
  obtain ⟨o, w, u, rfl, ho, hw, hu⟩ := VRs.three p.1
  obtain rfl := VR.ref ho
  obtain ⟨t, rfl⟩ := VR.int hw
  obtain rfl := KVs.no p.2
  obtain ⟨vs, n, hg, r, il, ty, hn⟩ := S.list hl
  have hfit : ¬ (!Builtin.List.listFitsIndex i) = true := by
    simp only [Builtin.List.listFitsIndex, Bool.not_eq_true', Bool.not_eq_false]
    simp only [Bool.and_eq_true, decide_eq_true_eq]
    omega
  refine call_meets PySem.F.slot_list_insert ty PySem.F.entry_list_insert (PySem.F.args_list_insert_3 _ _ _) (PySem.AutoListH.list_insert_list_int_val_1 a vs n i t u hfit (by rw [hn, sizeLine_eq]; omega)) ⟨hg, ?_⟩
  have hk : (if i < 0 then (i + ((vs.size : Nat) : Int)).toNat else min i.toNat vs.size) = i.toNat := by
    rw [if_neg (by omega), hn]; omega
  obtain ⟨n', e'⟩ := upd_list (us := (vs.extract 0 i.toNat).push u ++ vs.extract i.toNat) (f := fun xs => have k := if i < 0 then (i + ((xs.size : Nat) : Int)).toNat else min i.toNat xs.size; (xs.extract 0 k).push u ++ xs.extract k) hg (by
    show (vs.extract 0 (if i < 0 then (i + ((vs.size : Nat) : Int)).toNat else min i.toNat vs.size)).push u ++ vs.extract (if i < 0 then (i + ((vs.size : Nat) : Int)).toNat else min i.toNat vs.size) = _
    rw [hk])
  obtain ⟨S', T'⟩ := S.putL (tk := s.toks) (l' := l.take i.toNat ++ v :: l.drop i.toNat) hl (Heap.SameBut.update ..).extBut e' (by
    rw [list_insert_eq _ _ _ (by rw [hn]; omega)]
    exact VRs.append (r.take _) (VRs.cons hu (r.drop _)))
  exact q _ .none _ _ h S' T' VR.ofNone
theorem cv_pop0 {a : Addr} {x : MV} {l : List MV} {K} (hl : σ.L a = some (x :: l)) (hz : l.length ≤ 1000000) (h : K x (σ.setL a l)) : CallV X m σ (.builtin "list.pop") [.ref a, .int 0] [] K KE := fun vals kw s S p Q E q e => by
  obtain ⟨o, w, rfl, ho, hw⟩ := VRs.two p.1
  obtain rfl := VR.ref ho
  obtain ⟨t, rfl⟩ := VR.int hw
  obtain rfl := KVs.no p.2
  obtain ⟨vs, n, hg, r, il, ty, hn⟩ := S.list hl
  have r' := r
  unfold VRs at r'
  obtain ⟨u, rest, hvs, hu, hr⟩ := r'
  have hy : vs[0]? = some u := by rw [← Array.getElem?_toList, hvs]; rfl
  simp only [List.length_cons] at hn
  refine call_meets PySem.F.slot_list_pop ty PySem.F.entry_list_pop (PySem.F.args_list_pop_2 _ _) (PySem.MeetsSeq.list_pop_at a vs n 0 t 0 u (by decide) (seqIndex_of (k := 0) (by omega) (by omega)) hy (by rw [hn, sizeLine_eq]; omega)) ⟨hg, ?_⟩
  obtain ⟨n', e'⟩ := upd_list (us := vs.eraseIdxIfInBounds 0) (f := fun xs => xs.eraseIdxIfInBounds 0) hg rfl
  obtain ⟨S', T'⟩ := S.putL (tk := s.toks) (l' := l) hl (Heap.SameBut.update ..).extBut e' (by
    obtain ⟨vl⟩ := vs
    simp only at hvs
    subst hvs
    simpa using hr)
  exact q _ x _ _ h S' T' (hu.move (S.fx T'))
theorem cv_len_list {a : Addr} {l : List MV} {K} (hl : σ.L a = some l) (hz : l.length ≤ 1000000) (h : K (.int l.length) σ) : CallV X m σ (.builtin "len") [.ref a] [] K KE := fun vals kw s S p Q E q e => by
  obtain ⟨o, rfl, ho⟩ := VRs.one p.1
  obtain rfl := VR.ref ho
  obtain rfl := KVs.no p.2
  obtain ⟨vs, n, hg, r, il, ty, hn⟩ := S.list hl
  exact call_len_list il (by rw [hn]; omega) (q _ (.int l.length) σ _ h (S.tok _) Tr.refl (by rw [hn]; exact VR.ofInt))
theorem SmF.idict {s : Shared} (S : SmF X m σ s) {a : Addr} {l : List (Int × MV)} (hl : σ.D a = some l) : ∃ kvs, s.heap.DictOf (intKind X.C.prog X.C.w) a kvs ∧ KVs s.heap l kvs ∧ (a == sysModules) = false ∧ kvs.length = l.length :=
  let ⟨kvs, D, r⟩ := S.objs.D a l hl
  ⟨kvs, D, r, S.notSys (domD hl), r.length⟩
theorem SmF.sdict {s : Shared} (S : SmF X m σ s) {a : Addr} {l : List (Str × MV)} (hl : σ.S a = some l) : ∃ kvs, s.heap.DictOf (strKind X.C.prog X.C.w) a kvs ∧ KVs s.heap l kvs ∧ (a == sysModules) = false ∧ kvs.length = l.length :=
  let ⟨kvs, D, r⟩ := S.objs.S a l hl
  ⟨kvs, D, r, S.notSys (domS hl), r.length⟩
theorem cv_len_dict {a : Addr} {l : List (Int × MV)} {K} (hl : σ.D a = some l) (hz : l.length ≤ 1000000) (h : K (.int l.length) σ) : CallV X m σ (.builtin "len") [.ref a] [] K KE := fun vals kw s S p Q E q e => by
  obtain ⟨o, rfl, ho⟩ := VRs.one p.1
  obtain rfl := VR.ref ho
  obtain rfl := KVs.no p.2
  obtain ⟨kvs, D, r, ns, hn⟩ := S.idict hl
  exact call_len_dict ns D (by rw [hn]; omega) (q _ (.int l.length) σ _ h (S.tok _) Tr.refl (by rw [hn]; exact VR.ofInt))
theorem int_is {C : Cx} {h : Heap} {i : Int} {v : Value} (r : VR h (.int i) v) : (intKind C.prog C.w).is i v = true := by
  obtain ⟨t, rfl⟩ := r.int
  show (i == i) = true
  simp
theorem o_in_dict {i : Int} {a : Addr} {l : List (Int × MV)} {K} (hl : σ.D a = some l) (h : K (.bool (atK l i).isSome) σ) : Op2 X m σ VR (compareOp .In) (.int i) (.ref a) K KE := fun v u s S p Q E q e => by
  obtain rfl := VR.ref p.2
  obtain ⟨kvs, D, r, ns, hn⟩ := S.idict hl
  refine wpAny_in_of (int_is p.1) ns D.mapOf (q _ (.bool (atK l i).isSome) σ _ h (S.tok _) Tr.refl ?_)
  have := r.atK i
  cases z : atK l i with
  | none => rw [z] at this; rw [this]; exact VR.ofBool
  | some w => rw [z] at this; obtain ⟨u, hu, _⟩ := this; rw [hu]; exact VR.ofBool
theorem o_notin_dict {i : Int} {a : Addr} {l : List (Int × MV)} {K} (hl : σ.D a = some l) (h : K (.bool (!(atK l i).isSome)) σ) : Op2 X m σ VR (compareOp .NotIn) (.int i) (.ref a) K KE := fun v u s S p Q E q e => by
  obtain rfl := VR.ref p.2
  obtain ⟨kvs, D, r, ns, hn⟩ := S.idict hl
  refine wpAny_notIn_of (int_is p.1) ns D.mapOf (q _ (.bool (!(atK l i).isSome)) σ _ h (S.tok _) Tr.refl ?_)
  have := r.atK i
  cases z : atK l i with
  | none => rw [z] at this; rw [this]; exact VR.ofBool
  | some w => rw [z] at this; obtain ⟨u, hu, _⟩ := this; rw [hu]; exact VR.ofBool
theorem gi_dict {i : Int} {a : Addr} {l : List (Int × MV)} {v : MV} {K} (hl : σ.D a = some l) (hv : atK l i = some v) (h : K v σ) : Op2 X m σ VR (fun o k => getItem o k) (.ref a) (.int i) K KE := fun o k s S p Q E q e => by
  obtain rfl := VR.ref p.1
  obtain ⟨kvs, D, r, ns, hn⟩ := S.idict hl
  obtain ⟨u, hu, ru⟩ := r.someAt hv
  exact wpAny_getItem_of (int_is p.2) D.mapOf hu (q _ v σ _ h (S.tok _) Tr.refl ru)
theorem gi_list {i : Int} {a : Addr} {l : List MV} {v : MV} {K} (hl : σ.L a = some l) (h0 : 0 ≤ i) (hz : i < 1000000) (hv : l[i.toNat]? = some v) (h : K v σ) : Op2 X m σ VR (fun o k => getItem o k) (.ref a) (.int i) K KE := fun o k s S p Q E q e => by
  obtain rfl := VR.ref p.1
  obtain ⟨t, rfl⟩ := VR.int p.2
  obtain ⟨vs, n, hg, r, il, ty, hn⟩ := S.list hl
  obtain ⟨u, hu, ru⟩ := r.get hv
  exact wpAny_getItem_list il h0 (by omega) (by rw [← Array.getElem?_toList]; exact hu) (q _ v σ _ h S Tr.refl ru)
theorem gi_tup {i : Int} {l : List MV} {v : MV} {K} (h0 : 0 ≤ i) (hz : i < 1000000) (hv : l[i.toNat]? = some v) (h : K v σ) : Op2 X m σ VR (fun o k => getItem o k) (.tup l) (.int i) K KE := fun o k s S p Q E q e => by
  obtain ⟨a, vs, rfl, it, r⟩ := VR.tup p.1
  obtain ⟨t, rfl⟩ := VR.int p.2
  obtain ⟨u, hu, ru⟩ := r.get hv
  have hx : vs[i.toNat]? = some u := by rw [← Array.getElem?_toList]; exact hu
  have hlt : i.toNat < vs.size := (Array.getElem?_eq_some_iff.mp hx).1
  exact PyProof.Rows.getItem_tuple (j := i.toNat) it (by omega) (by omega) (seqIndex_of h0 (by omega)) hx (q _ v σ _ h S Tr.refl ru)
theorem SmF.putD {s : Shared} (S : SmF X m σ s) {a : Addr} {l l' : List (Int × MV)} {kvs' : List (Int × Value)} {h' : Heap} {tk : Nat} (hl : σ.D a = some l) (hs : Heap.ExtBut a s.heap h') (D' : h'.DictOf (intKind X.C.prog X.C.w) a kvs') (r : KVs s.heap l' kvs') :
    SmF X m (σ.setD a l') { s with heap := h', toks := tk } ∧ Tr X.fs [] σ s.heap (σ.setD a l') h' := by
  have T : Tr X.fs [] σ s.heap (σ.setD a l') h' := Tr.at (domD hl) (fun b o hb g => hs b o hb g) (let ⟨o, _, _, ho, _⟩ := D'; ⟨o, ho⟩) SameOff.setD
  exact ⟨S.stepE T (S.objs.upd (fun b o hb g => hs b o hb g) (fun o g f => by
    obtain ⟨o', e', z⟩ := S.objs.notFixed (domD hl); rw [g] at e'; cases e'; exact z f) SameOff.setD (AtD.idict S.objs (.inl ⟨l, hl⟩) D' (r.move (S.fx T)))), T⟩
theorem si_dict {i : Int} {a : Addr} {l : List (Int × MV)} {v : MV} {K} (hl : σ.D a = some l) (hz : l.length ≤ 1000000) (h : K (σ.setD a (putK l i v))) : SetI X m σ (.ref a) (.int i) v K KE := fun o j u s S p Q E q e => by
  obtain rfl := VR.ref p.1
  obtain ⟨kvs, D, r, ns, hn⟩ := S.idict hl
  refine wpAny_setItem_pairs (hsz := by rw [hn, sizeLine_eq]; omega) (int_is p.2.1) D fun h' D' hs => ?_
  obtain ⟨S', T'⟩ := S.putD (tk := s.toks + 1) (l' := putK l i v) hl hs.extBut D' (r.put i p.2.2)
  exact q _ () _ _ h S' T' trivial
end
end Mine
namespace Mine
noncomputable def ownedIters : List String := ["enumerate", "zip", "dict_itemiterator", "dict_reverseitemiterator", "odict_iterator", "itertools.zip_longest", "itertools.pairwise"]
theorem go_plain {M : Model} {A : Around} {E : Value → Shared → Prop} {s : Shared} {target : Expr} {I : Addr} {o : Obj} {n : String} {v : Value} {Q : Unit → Shared → Prop} (ho : s.heap.get? I = some o) (hc : o.cls = .type n) (hn : ownedIters.contains n = false) (h : Q () s) :
    wpAny M A (letOwnedTupleGo target (.ref I) v) Q E s := by
  have core : wpAny M A (match (Value.ref I, v) with
      | (.ref r, .ref a) => do
        let o ← load r
        match o.cls, o.data with
        | .type n, .fields vs => if ownedIters.contains n && vs[0]? == some (rawInt a) then do rule "for.unpacks-the-owned-tuple"; updateField r 0 .none else pure ()
        | _, _ => pure ()
      | _ => pure ()) Q E s := by
    cases v <;> try exact wpAny_pure h
    rename_i a
    refine wpAny_bind (wpAny_load ho ?_)
    rw [hc]
    cases hd : o.data <;> try exact wpAny_pure h
    rename_i vs
    simp only [hn, Bool.false_and, Bool.false_eq_true, if_false]
    exact wpAny_pure h
  cases target <;> first | exact wpAny_pure h | exact core
section
variable {X : Fx} {m : Loc} {σ : MHeap} {K : FlowM → Loc → MHeap → Prop} {KE : Value → Loc → MHeap → Prop}
structure IterOk (I : Addr) (St : Nat → Heap → Prop) : Prop where
  keep : ∀ i h h', St i h → (∀ o, h.get? I = some o → h'.get? I = some o) → St i h'
  is : ∀ i h, St i h → ∃ o vs n, h.get? I = some o ∧ o.data = .fields vs ∧ o.cls = .type n ∧ ownedIters.contains n = false
noncomputable def ItemOk (X : Fx) (I : Addr) (St : Nat → Heap → Prop) (i : Nat) (m : Loc) (σ : MHeap) (v : MV) : Prop :=
  ∀ s, SmF X m σ s → St i s.heap → ∀ (Q : Option Value → Shared → Prop) (E : Value → Shared → Prop), (∀ u h' tk, VR s.heap v u → St (i + 1) h' → Heap.SameBut I s.heap h' → Q (some u) { s with heap := h', toks := tk }) → wpAny X.C.M X.A (pyNext (.ref I)) Q E s
noncomputable def DoneOk (X : Fx) (I : Addr) (St : Nat → Heap → Prop) (i : Nat) (m : Loc) (σ : MHeap) : Prop :=
  ∀ s, SmF X m σ s → St i s.heap → ∀ (Q : Option Value → Shared → Prop) (E : Value → Shared → Prop), (∀ h' tk, Heap.ExtBut I s.heap h' → Q none { s with heap := h', toks := tk }) → wpAny X.C.M X.A (pyNext (.ref I)) Q E s
noncomputable def DoneOkA (X : Fx) (I : Addr) (St : Nat → Heap → Prop) (i : Nat) (m : Loc) (σ : MHeap) : Prop :=
  ∀ s, SmF X m σ s → St i s.heap → Apart X.hd I s.heap → ∀ (Q : Option Value → Shared → Prop) (E : Value → Shared → Prop), (∀ h' tk, Heap.ExtBut I s.heap h' → Q none { s with heap := h', toks := tk }) → wpAny X.C.M X.A (pyNext (.ref I)) Q E s
noncomputable def turnK (J : Nat → Loc → MHeap → Prop) (i : Nat) (K : FlowM → Loc → MHeap → Prop) : FlowM → Loc → MHeap → Prop
  | .next, m', σ' => J (i + 1) m' σ'
  | .cont, m', σ' => J (i + 1) m' σ'
  | .brk, m', σ' => K .next m' σ'
  | .ret v, m', σ' => K (.ret v) m' σ'
theorem tk_next {J i} (h : J (i + 1) m σ) : turnK J i K .next m σ := h
noncomputable abbrev Turn (X : Fx) (t : Expr) (b : List Stmt) (i : Nat) (J : Nat → Loc → MHeap → Prop) (K : FlowM → Loc → MHeap → Prop) (KE : Value → Loc → MHeap → Prop) (m : Loc) (σ : MHeap) (v : MV) : Prop :=
  AsT X m σ t v (fun m₂ σ₂ => RunS X m₂ σ₂ b (turnK J i K) KE) KE
theorem for_core {t : Expr} {b o : List Stmt} {I : Addr} {St : Nat → Heap → Prop} (J : Nat → Loc → MHeap → Prop) (N : Nat) (hI : IterOk I St) (hN : ∀ i m' σ', J i m' σ' → i ≤ N)
    (turn : ∀ i m' σ', J i m' σ' → (∃ v, ItemOk X I St i m' σ' v ∧ Turn X t b i J K KE m' σ' v) ∨ (DoneOkA X I St i m' σ' ∧ RunS X m' σ' o K KE))
    {s₀ s : Shared} {m₀ : Loc} {σ₀ : MHeap} (S₀ : SmF X m₀ σ₀ s₀) (hI0 : s₀.heap.get? I = none) (S : SmF X m σ s) (T : Tr X.fs X.own σ₀ s₀.heap σ s.heap) (h : J 0 m σ) (hst : St 0 s.heap)
    {Q : Flow → Shared → Prop} {E : Value → Shared → Prop} (q : OkL X σ₀ s₀.heap FR K Q) (e : ErL X σ₀ s₀.heap KE E) :
    codeAny X.C.M X.A (.forLoop t (.ref I) b o X.env) (fun r s' => match r with | .ok f => Q f s' | .error e => cameBackBy X.C.M X.A X.env E e s') s := by
  refine codeAny_forLoop_any (fun n s' => ∃ i m' σ', n = N + 1 - i ∧ J i m' σ' ∧ SmF X m' σ' s' ∧ Tr X.fs X.own σ₀ s₀.heap σ' s'.heap ∧ St i s'.heap) ?_ (N + 1) ⟨0, m, σ, rfl, h, S, T, hst⟩
  rintro n s' ⟨i, m', σ', rfl, hJ, S', T', hst'⟩
  have er : ErL X σ₀ s₀.heap KE (notedBy X.C.M X.A X.env (fun e' s'' => cameBackBy X.C.M X.A X.env E e' s'')) := fun ev x m₁ σ₁ s₁ k S₁ T₁ hx => er_loop S₀ e k S₁ T₁ hx
  obtain ⟨oI, vI, nI, hoI, hdI, hcI, hnI⟩ := hI.is i _ hst'
  have fI : ∀ b, b = I → s₀.heap.get? b = none ∧ ∀ o, s'.heap.get? b = some o → ∃ vs, o.data = .fields vs := fun b hb => by
    subst hb; exact ⟨hI0, fun o z => by rw [hoI] at z; cases z; exact ⟨vI, hdI⟩⟩
  rcases turn i m' σ' hJ with ⟨v, hi, ht⟩ | ⟨hd, ho⟩
  · refine hi s' S' hst' _ _ fun u h₁ tk hv hst₁ hs₁ => ?_
    have nfI : ∀ b o, s'.heap.get? b = some o → b ≠ I → h₁.get? b = some o := fun b o z nb => hs₁.extBut b o nb z
    obtain ⟨S₁, T₁⟩ := exc_turn (tk := tk) (h' := h₁) S₀ S₀.ownc T' S' (bad := fun b => b = I) fI (fun b o z nb _ => nfI b o z nb) (fun b o z nb => ⟨o.slots, nfI b o z nb⟩)
    obtain ⟨o1, v1, n1, ho1, hd1, hc1, hn1⟩ := hI.is _ _ hst₁
    refine go_plain (s := { s' with heap := h₁, toks := tk }) ho1 hc1 hn1 ?_
    have hv₁ : VR h₁ v u := hv.moveT fun b o z f => nfI b o z fun zz => by
      subst zz; rw [hoI] at z; cases z
      obtain ⟨_, w, k, y⟩ := f; rw [hdI] at y; cases y
    refine ht u _ S₁ hv₁ _ _ (fun _ _ m₂ σ₂ s₂ k₂ S₂ T₂ _ => ?_) (er.after T₁)
    have st₂ : St (i + 1) s₂.heap := hI.keep _ _ _ hst₁ fun o z => by
      rw [ho1] at z; cases z
      exact S₁.fxL T₂ _ _ ho1 (.inr ⟨v1, hd1⟩)
    have T₂' := T₁.trans T₂
    refine k₂ s₂ S₂ trivial _ _ (fun f fm m₃ σ₃ s₃ k₃ S₃ T₃ r => ?_) (er.after T₂')
    have T₃' := T₂'.trans T₃
    obtain ⟨o2, v2, n2, ho2, hd2, _⟩ := hI.is _ _ st₂
    have st₃ : St (i + 1) s₃.heap := hI.keep _ _ _ st₂ fun o z => by
      rw [ho2] at z; cases z
      exact S₂.fxL T₃ _ _ ho2 (.inr ⟨v2, hd2⟩)
    have lt : ∀ k, k = i + 1 → i ≤ N → k ≤ N → N + 1 - k < N + 1 - i := fun k a b c => by omega
    cases fm with
    | next =>
      have : f = .next := r
      subst this
      exact ⟨_, lt _ rfl (hN _ _ _ hJ) (hN _ _ _ k₃), i + 1, m₃, σ₃, rfl, k₃, S₃, T₃', st₃⟩
    | cont =>
      have : f = .cont := r
      subst this
      exact ⟨_, lt _ rfl (hN _ _ _ hJ) (hN _ _ _ k₃), i + 1, m₃, σ₃, rfl, k₃, S₃, T₃', st₃⟩
    | brk =>
      have : f = .brk := r
      subst this
      exact q _ .next m₃ σ₃ s₃ k₃ S₃ T₃' rfl
    | ret w =>
      obtain ⟨u, rfl, r⟩ : ∃ u, f = .ret u ∧ VR s₃.heap w u := r
      exact q _ (.ret w) m₃ σ₃ s₃ k₃ S₃ T₃' ⟨u, rfl, r⟩
  · have ap : Apart X.hd I s'.heap := fun v hv => by
      obtain ⟨x, l, q, c, th⟩ := S₀.hndFrom S₀.ownc T' hv
      exact ⟨x, l, q, c, fun z => by obtain ⟨o, ho⟩ := th _ z; rw [hI0] at ho; cases ho⟩
    refine hd s' S' hst' ap _ _ fun h₁ tk hs₁ => ?_
    obtain ⟨S₁, T₁⟩ := exc_turn (tk := tk) (h' := h₁) S₀ S₀.ownc T' S' (bad := fun b => b = I) fI (fun b o z nb _ => hs₁ b o nb z) (fun b o z nb => ⟨o.slots, hs₁ b o nb z⟩)
    exact ho _ S₁ trivial _ _ (q.after T₁) (er.after T₁)
theorem hst_list {I a : Addr} : IterOk I (fun i h => h.IsListIter I a i) := by
  refine ⟨fun i h h' st k => st.at k, fun i h st => ?_⟩
  obtain ⟨o, ho, hc, hd⟩ := st
  exact ⟨o, _, "list_iterator", ho, hd, hc, by decide⟩
theorem r1_For_listA {t it : Expr} {b o : List Stmt} {p : Pos} (J : Nat → Loc → MHeap → Prop) (N : Nat) (hs : ∀ x, foldedSetIterable it X.env x = pure x)
    (h : EvE X m σ it (fun v σ₁ => ∃ a, v = .ref a ∧ J 0 m σ₁ ∧ (∀ i m' σ', J i m' σ' → i ≤ N) ∧
      ∀ i m' σ', J i m' σ' → ∃ l, σ'.L a = some l ∧ (∀ v, l[i]? = some v → Turn X t b i J K KE m' σ' v) ∧ (l[i]? = none → RunS X m' σ' o K KE)) (fun x σ' => KE x m σ')) :
    Run1 X m σ (.For t it b o p) K KE := fun s S _ Q E q e => by
  refine wpAny_For (h s S trivial _ E (fun v mv σ₁ s₁ h₁ S₁ T₁ r₁ => ?_) (e.er m)) hs
  obtain ⟨a, rfl, hJ, hN, turn⟩ := h₁
  obtain rfl := VR.ref r₁
  obtain ⟨l₀, hl₀, _⟩ := turn 0 m σ₁ hJ
  obtain ⟨vs, n, ho, r, il, ty, _⟩ := S₁.list hl₀
  refine wpAny_pyIter_list il ?_
  obtain ⟨S₂, T₂⟩ := S₁.push (o := { cls := .type "list_iterator", data := .fields #[.ref a, .int 0 0] }) (tk := s₁.toks) rfl SameOff.refl (AtD.none S₁.objs S₁.fresh.1)
  have T0 : Tr X.fs X.own σ s.heap σ₁ s₁.heap := T₁.own
  refine for_core (t := t) (b := b) (o := o) (St := fun i h => h.IsListIter s₁.heap.objs.size a i) J N hst_list hN (fun i m' σ' hJ' => ?_) S (by
      cases z : s.heap.get? s₁.heap.objs.size with
      | none => rfl
      | some o => obtain ⟨o', y⟩ := T₁.there _ o z; rw [S₁.fresh.1] at y; cases y) S₂ (T0.trans T₂.own) hJ ⟨_, Heap.get?_push_size _ rfl, rfl, rfl⟩ q e
  obtain ⟨l, hl, hi, hd⟩ := turn i m' σ' hJ'
  cases z : l[i]? with
  | some v =>
    refine .inl ⟨v, fun s' S' st Q' E' k => ?_, hi v z⟩
    obtain ⟨vs', n', ho', r', il', ty', hn'⟩ := S'.list hl
    obtain ⟨u, hu, ru⟩ := r'.get z
    exact wpAny_pyNext_list_item st il' (by rw [← Array.getElem?_toList]; exact hu) fun h' st' hs' => k u h' s'.toks ru st' hs'
  | none =>
    refine .inr ⟨fun s' S' st ap Q' E' k => ?_, hd z⟩
    obtain ⟨vs', n', ho', r', il', ty', hn'⟩ := S'.list hl
    refine next_list_end ap st il' ?_ fun h' hs' => k h' s'.toks hs'
    rw [← Array.getElem?_toList, List.getElem?_eq_none]
    rw [r'.length]; exact List.getElem?_eq_none_iff.mp z
theorem r1_For_list {t it : Expr} {b o : List Stmt} {p : Pos} (J : Nat → Loc → MHeap → Prop) (N : Nat) (hh : X.A.handled = none) (hs : ∀ x, foldedSetIterable it X.env x = pure x)
    (h : EvE X m σ it (fun v σ₁ => ∃ a, v = .ref a ∧ J 0 m σ₁ ∧ (∀ i m' σ', J i m' σ' → i ≤ N) ∧
      ∀ i m' σ', J i m' σ' → ∃ l, σ'.L a = some l ∧ (∀ v, l[i]? = some v → Turn X t b i J K KE m' σ' v) ∧ (l[i]? = none → RunS X m' σ' o K KE)) (fun x σ' => KE x m σ')) :
    Run1 X m σ (.For t it b o p) K KE := r1_For_listA J N hs h
noncomputable def RngR (h : Heap) (b : Int × Int × Int) (v : Value) : Prop := ∃ r t u w, v = .ref r ∧ IsRange h r b.1 b.2.1 b.2.2 t u w
theorem cr_range1 {n : Int} {K : Int × Int × Int → MHeap → Prop} {KE : Value → MHeap → Prop} (h : K (0, n, 1) σ) : CallR X m σ RngR (.type "range") [.int n] [] K KE := fun vals kw s S p Q E q e => by
  obtain ⟨v, rfl, hv⟩ := VRs.one p.1
  obtain ⟨t, rfl⟩ := VR.int hv
  obtain rfl := KVs.no p.2
  refine call_range_1 ?_
  obtain ⟨S', T'⟩ := S.push (o := { cls := .type "range", data := .fields #[.int 0 s.toks, .int n t, .int 1 (s.toks + 1)] }) (tk := s.toks + 1 + 1) rfl SameOff.refl (AtD.none S.objs S.fresh.1)
  exact q _ (0, n, 1) σ _ h S' T' ⟨_, _, _, _, rfl, Heap.get?_push_size _ rfl⟩
theorem hst_range {I : Addr} {a c left : Int} : IterOk I (fun i h => IsRangeIter h I (a + (i : Nat) * c) (left - (i : Nat)) c) :=
  ⟨fun i h h' st k => k _ st, fun i h st => ⟨_, _, "range_iterator", st, rfl, rfl, by decide⟩⟩
theorem r1_For_range {t it : Expr} {b o : List Stmt} {p : Pos} (J : Nat → Loc → MHeap → Prop) (N : Nat) (hh : X.A.handled = none) (hs : ∀ x, foldedSetIterable it X.env x = pure x)
    (h : EvR X m σ RngR it (fun v σ₁ => Builtin.Range.small v.1 v.2.1 v.2.2 = true ∧ Builtin.Range.rangeSize v.1 v.2.1 v.2.2 = (N : Int) ∧ J 0 m σ₁ ∧
      (∀ i m' σ', i < N → J i m' σ' → Turn X t b i J K KE m' σ' (.int (v.1 + (i : Nat) * v.2.2))) ∧ (∀ m' σ', J N m' σ' → RunS X m' σ' o K KE)) (fun x σ' => KE x m σ')) :
    Run1 X m σ (.For t it b o p) K KE := fun s S _ Q E q e => by
  refine wpAny_For (h s S trivial _ E (fun v mv σ₁ s₁ h₁ S₁ T₁ r₁ => ?_) (e.er m)) hs
  obtain ⟨hsm, hN, hJ, turn, done⟩ := h₁
  obtain ⟨r, t₁, u₁, w₁, rfl, hr⟩ := r₁
  refine wpAny_pyIter_range hr hsm ?_
  obtain ⟨S₂, T₂⟩ := S₁.push (o := { cls := .type "range_iterator", data := .fields #[rawInt mv.1, rawInt (Builtin.Range.rangeSize mv.1 mv.2.1 mv.2.2), rawInt mv.2.2] }) (tk := s₁.toks) rfl SameOff.refl (AtD.none S₁.objs S₁.fresh.1)
  have T0 : Tr X.fs X.own σ s.heap σ₁ s₁.heap := T₁.own
  refine for_core (t := t) (b := b) (o := o) (St := fun i h => IsRangeIter h s₁.heap.objs.size (mv.1 + (i : Nat) * mv.2.2) ((N : Int) - (i : Nat)) mv.2.2) (fun i m' σ' => i ≤ N ∧ J i m' σ') N hst_range (fun i m' σ' z => z.1) (fun i m' σ' hJ' => ?_) S (by
      cases z : s.heap.get? s₁.heap.objs.size with
      | none => rfl
      | some o => obtain ⟨o', y⟩ := T₁.there _ o z; rw [S₁.fresh.1] at y; cases y) S₂ (T0.trans T₂.own) ⟨Nat.zero_le _, hJ⟩ (by
        show (s₁.heap.push _).get? _ = _
        rw [Heap.get?_push_size _ rfl, hN]; simp) q e
  rcases Nat.lt_or_ge i N with hi | hi
  · refine .inl ⟨.int (mv.1 + (i : Nat) * mv.2.2), fun s' S' st Q' E' k => ?_, fun u => ?_⟩
    · refine wpAny_pyNext_range_item st (by omega) fun h' st' hs' => k _ h' _ VR.ofInt ?_ hs'
      have e1 : mv.1 + ((i + 1 : Nat) : Int) * mv.2.2 = mv.1 + (i : Nat) * mv.2.2 + mv.2.2 := by
        rw [Int.natCast_add, Int.add_mul]; simp; omega
      have e2 : (N : Int) - ((i + 1 : Nat) : Int) = (N : Int) - (i : Nat) - 1 := by omega
      show IsRangeIter h' _ (mv.1 + ((i + 1 : Nat) : Int) * mv.2.2) ((N : Int) - ((i + 1 : Nat) : Int)) mv.2.2
      rw [e1, e2]; exact st'
    · refine (turn i m' σ' hi hJ'.2 u).mono (fun _ m₂ σ₂ z => z.mono (fun f m₃ σ₃ y => ?_) fun _ _ _ y => y) fun _ _ _ y => y
      cases f <;> first | exact ⟨hi, y⟩ | exact y
  · have : i = N := Nat.le_antisymm hJ'.1 hi
    subst this
    exact .inr ⟨fun s' S' st _ Q' E' k => wpAny_pyNext_range_end hh st (by omega) fun h' hs' => k h' s'.toks hs', done m' σ' hJ'.2⟩
theorem hst_dict {I d : Addr} {n ep : Nat} : IterOk I (fun i h => h.IsKeyIter I d i n ep) := by
  refine ⟨fun i h h' st k => ?_, fun i h st => ?_⟩
  · obtain ⟨o, ho, r⟩ := st
    exact ⟨o, k o ho, r⟩
  · obtain ⟨o, ho, hc, hd⟩ := st
    exact ⟨o, _, "dict_keyiterator", ho, hd, hc, by decide⟩
theorem SmF.dictAt {s : Shared} (S : SmF X m σ s) {a : Addr} {l : List (Int × MV)} {ep : Nat} (hl : σ.D a = some l) (he : σ.E a = some ep) : ∃ kvs, s.heap.DictAt (intKind X.C.prog X.C.w) a kvs ep ∧ KVs s.heap l kvs := by
  obtain ⟨kvs, D, r⟩ := S.objs.D a l hl
  obtain ⟨_, o, es, ho, hd⟩ := S.objs.E a ep he
  obtain ⟨o', es', ep', ho', hc, hd', rest⟩ := D
  rw [ho] at ho'; cases ho'
  rw [hd] at hd'; cases hd'
  exact ⟨kvs, ⟨o, es, ho, hc, hd, rest⟩, r⟩
theorem KVs.get {α : Type} {h : Heap} : ∀ {l : List (α × MV)} {kvs : List (α × Value)}, KVs h l kvs → ∀ i : Nat, (∀ k v, l[i]? = some (k, v) → ∃ u, kvs[i]? = some (k, u)) ∧ (l[i]? = none → kvs[i]? = none)
  | [], _, e, i => by cases e; exact ⟨fun k v z => by simp at z, fun _ => by simp⟩
  | (x, m) :: r, _, e, i => by
    obtain ⟨w, l', rfl, hw, hr⟩ := e
    cases i with
    | zero => exact ⟨fun k v z => by simp at z; obtain ⟨rfl, rfl⟩ := z; exact ⟨w, rfl⟩, fun z => by simp at z⟩
    | succ i =>
      obtain ⟨a, b⟩ := KVs.get hr i
      exact ⟨fun k v z => by simpa using a k v (by simpa using z), fun z => by simpa using b (by simpa using z)⟩
theorem r1_For_dict {t it : Expr} {b o : List Stmt} {p : Pos} (J : Nat → Loc → MHeap → Prop) (N : Nat) (hh : X.A.handled = none) (hs : ∀ x, foldedSetIterable it X.env x = pure x)
    (h : EvE X m σ it (fun v σ₁ => ∃ d l ep, v = .ref d ∧ l.length = N ∧ J 0 m σ₁ ∧ (∀ i m' σ', J i m' σ' → i ≤ N ∧ σ'.D d = some l ∧ σ'.E d = some ep) ∧
      (∀ i m' σ' k v, l[i]? = some (k, v) → J i m' σ' → Turn X t b i J K KE m' σ' (.int k)) ∧ (∀ m' σ', J N m' σ' → RunS X m' σ' o K KE)) (fun x σ' => KE x m σ')) :
    Run1 X m σ (.For t it b o p) K KE := fun s S _ Q E q e => by
  refine wpAny_For (h s S trivial _ E (fun v mv σ₁ s₁ h₁ S₁ T₁ r₁ => ?_) (e.er m)) hs
  obtain ⟨d, l, ep, rfl, hN, hJ, hj, turn, done⟩ := h₁
  obtain rfl := VR.ref r₁
  obtain ⟨_, hl₀, he₀⟩ := hj 0 m σ₁ hJ
  obtain ⟨kvs, D, r⟩ := S₁.dictAt hl₀ he₀
  refine wpAny_pyIter_dict (S₁.notSys (domD hl₀)) D ?_
  have hkn : kvs.length = N := by rw [r.length, hN]
  obtain ⟨S₂, T₂⟩ := S₁.push (o := { cls := .type "dict_keyiterator", data := .fields #[.ref d, .int 0 0, .int kvs.length 0, .int ep 0] }) (tk := s₁.toks) rfl SameOff.refl (AtD.none S₁.objs S₁.fresh.1)
  have T0 : Tr X.fs X.own σ s.heap σ₁ s₁.heap := T₁.own
  refine for_core (t := t) (b := b) (o := o) (St := fun i h => h.IsKeyIter s₁.heap.objs.size d i N ep) J N hst_dict (fun i m' σ' z => (hj i m' σ' z).1) (fun i m' σ' hJ' => ?_) S (by
      cases z : s.heap.get? s₁.heap.objs.size with
      | none => rfl
      | some o => obtain ⟨o', y⟩ := T₁.there _ o z; rw [S₁.fresh.1] at y; cases y) S₂ (T0.trans T₂.own) hJ ⟨_, Heap.get?_push_size _ rfl, rfl, by rw [hkn]; rfl⟩ q e
  obtain ⟨hi, hl, he⟩ := hj i m' σ' hJ'
  cases z : l[i]? with
  | some kv =>
    obtain ⟨k, v⟩ := kv
    refine .inl ⟨.int k, fun s' S' st Q' E' kk => ?_, turn i m' σ' k v z hJ'⟩
    obtain ⟨kvs', D', r'⟩ := S'.dictAt hl he
    obtain ⟨u, hu⟩ := (r'.get i).1 k v z
    have hn' : kvs'.length = N := by rw [r'.length, hN]
    rw [← hn'] at st
    refine wpAny_pyNext_dict_item st D' hu fun key h' hk st' hs' => kk key h' s'.toks ?_ (by rw [hn'] at st'; exact st') hs'
    obtain ⟨t, rfl⟩ := Value.isInt_shape hk
    exact VR.ofInt
  | none =>
    have : i = N := by have := List.getElem?_eq_none_iff.mp z; omega
    subst this
    refine .inr ⟨fun s' S' st _ Q' E' kk => ?_, done m' σ' hJ'⟩
    obtain ⟨kvs', D', r'⟩ := S'.dictAt hl he
    have hn' : kvs'.length = i := by rw [r'.length, hN]
    rw [← hn'] at st
    exact wpAny_pyNext_dict_end hh (i := kvs'.length) st D' (by simp) fun h' hs' => kk h' s'.toks hs'
end
end Mine
namespace Mine
noncomputable def notSlice : Expr → Bool
  | .Slice .. => false
  | _ => true
theorem sub_plain {e : Expr} {o i : Value} (h : notSlice e = true) : subscripted e false o i = operate [o, i] (getItem o i) := by
  cases e <;> first | rfl | cases h
section
variable {X : Fx} {m : Loc} {σ : MHeap} {KE : Value → MHeap → Prop}
noncomputable def TyIs (σ : MHeap) : MV → String → Prop
  | .ref a, T => (T = "list" ∧ σ.L a ≠ none) ∨ (T = "dict" ∧ (σ.D a ≠ none ∨ σ.S a ≠ none))
  | .tup _, T => T = "tuple"
  | .int _, T => T = "int"
  | .bool _, T => T = "bool"
  | .str _, T => T = "str"
  | _, _ => False
theorem TyIs.is {s : Shared} (S : SmF X m σ s) {v : MV} {u : Value} {T : String} (h : TyIs σ v T) (r : VR s.heap v u) : s.TypeIs u T := by
  cases v with
  | ref a =>
    obtain rfl := r.ref
    rcases h with ⟨rfl, h⟩ | ⟨rfl, h | h⟩
    · obtain ⟨l, hl⟩ := Option.ne_none_iff_exists'.mp h
      obtain ⟨_, _, _, _, _, ty, _⟩ := S.list hl
      exact ty
    · obtain ⟨l, hl⟩ := Option.ne_none_iff_exists'.mp h
      obtain ⟨_, D, _⟩ := S.idict hl
      exact D.typeIs
    · obtain ⟨l, hl⟩ := Option.ne_none_iff_exists'.mp h
      obtain ⟨_, D, _⟩ := S.sdict hl
      exact D.typeIs
  | tup l =>
    obtain ⟨a, vs, rfl, ⟨o, ho, hc, _⟩, _⟩ := r.tup
    unfold TyIs at h; subst h
    exact ⟨o, ho, hc⟩
  | int i => obtain ⟨t, rfl⟩ := r.int; unfold TyIs at h; subst h; rfl
  | bool b => obtain rfl := r.bool; unfold TyIs at h; subst h; rfl
  | str x => obtain ⟨t, rfl⟩ := r.str; unfold TyIs at h; subst h; rfl
  | none => cases h
  | raw => cases h
noncomputable def SubG (X : Fx) (m : Loc) (σ : MHeap) (o i : MV) (K : MV → MHeap → Prop) (KE : Value → MHeap → Prop) : Prop :=
  ∃ T id, typeLookup (.type T) "__getitem__" = pure (some (.builtin id)) ∧ TyIs σ o T ∧ Op2 X m σ VR (fun a b => getItem a b) o i K KE
theorem ev_sub {value slice pos} {K} (hn : notSlice slice = true)
    (h : EvE X m σ value (fun ov σ₁ => EvE X m σ₁ slice (fun iv σ₂ => SubG X m σ₂ ov iv K KE) KE) KE) : EvE X m σ (.Subscript value slice pos) K KE := fun s S _ Q E q e =>
  Subscript_ (h s S trivial _ E (fun o ov σ₁ s₁ h₁ S₁ T₁ r₁ => h₁ s₁ S₁ trivial _ E (fun i iv σ₂ s₂ h₂ S₂ T₂ r₂ => by
    obtain ⟨T, id, hl, ht, h₂⟩ := h₂
    exact tail_any (ht.is S₂ (r₁.move (S₁.fx T₂))) hl (h₂ o i s₂ S₂ ⟨r₁.move (S₁.fx T₂), r₂⟩ Q E ((q.after T₁).after T₂) ((e.after T₁).after T₂)) (sub_plain hn)) (e.after T₁)) e)
theorem look_list : typeLookup (.type "list") "__getitem__" = pure (some (.builtin "list.__getitem__")) := slot_list_getitem.lookup
theorem look_dict : typeLookup (.type "dict") "__getitem__" = pure (some (.builtin "dict.__getitem__")) := slot_dict_getitem.lookup
theorem look_tuple : typeLookup (.type "tuple") "__getitem__" = pure (some (.builtin "tuple.__getitem__")) := slot_tuple_getitem.lookup
theorem sg_tup {i : Int} {l : List MV} {v : MV} {K} (h0 : 0 ≤ i) (hz : i < 1000000) (hv : l[i.toNat]? = some v) (h : K v σ) : SubG X m σ (.tup l) (.int i) K KE := ⟨_, _, look_tuple, rfl, gi_tup h0 hz hv h⟩
theorem sg_list {i : Int} {a : Addr} {l : List MV} {v : MV} {K} (hl : σ.L a = some l) (h0 : 0 ≤ i) (hz : i < 1000000) (hv : l[i.toNat]? = some v) (h : K v σ) : SubG X m σ (.ref a) (.int i) K KE :=
  ⟨_, _, look_list, .inl ⟨rfl, by rw [hl]; nofun⟩, gi_list hl h0 hz hv h⟩
theorem sg_dict {i : Int} {a : Addr} {l : List (Int × MV)} {v : MV} {K} (hl : σ.D a = some l) (hv : atK l i = some v) (h : K v σ) : SubG X m σ (.ref a) (.int i) K KE := ⟨_, _, look_dict, .inr ⟨rfl, .inl (by rw [hl]; nofun)⟩, gi_dict hl hv h⟩
theorem ev_dict0 {pos} {K} (h : ∀ a, ¬ σ.Dom a → K (.ref a) (σ.setD a [])) : EvE X m σ (.Dict [] [] pos) K KE := fun s S _ Q E q e =>
  wpAny_Dict_empty (by
    obtain ⟨S', T'⟩ := S.push (o := { cls := .type "dict", data := .dict #[] }) (tk := s.toks) rfl (SameOff.setD (x := [])) (AtD.idict S.objs (.inr S.fresh.1) (Heap.DictOf.new _) rfl)
    exact q _ _ _ _ (h _ S.fresh.2) S' T' VR.ofRef)
noncomputable def PartM : MV → Option Int → Prop
  | .none, o => o = .none
  | .int i, o => o = some i
  | _, _ => False
theorem PartM.is {h : Heap} {v : MV} {o : Option Int} {u : Value} (p : PartM v o) (r : VR h v u) : IsPart u o := by
  cases v with
  | none => obtain rfl := r.none; unfold PartM at p; subst p; exact .none
  | int i => obtain ⟨t, rfl⟩ := r.int; unfold PartM at p; subst p; exact .int i t
  | _ => cases p
noncomputable abbrev EvP (X : Fx) (m : Loc) (σ : MHeap) (e : Option Expr) (K : MV → MHeap → Prop) (KE : Value → MHeap → Prop) : Prop := RunE X m σ VR (fun _ => True) (evalPart e X.env) K KE
theorem ep_none {K} (h : K .none σ) : EvP X m σ none K KE := fun s S _ Q E q e => wpAny_pure (q _ .none σ s h S Tr.refl VR.ofNone)
theorem ep_some {x} {K} (h : EvE X m σ x K KE) : EvP X m σ (some x) K KE := h
noncomputable def pickL (l : List MV) (lo hi : Option Int) : List MV := (l.drop (lo.elim 0 (clipAt l.length))).take (hi.elim l.length (clipAt l.length) - lo.elim 0 (clipAt l.length))
theorem et_chain2 {l op₁ op₂ r₁ r₂ p} {K} (hm : lastMarks [op₁, op₂] [r₁, r₂] = false)
    (h : EvE X m σ l (fun a σ₁ => EvE X m σ₁ r₁ (fun b σ₂ => Op2 X m σ₂ VR (compareOp op₁) a b (fun c σ₃ => Op1 X m σ₃ BR truthy c (fun t σ₄ => if t = true then EvE X m σ₄ r₂ (fun d σ₅ => Op2 X m σ₅ VR (compareOp op₂) b d (fun c σ₆ => Op1 X m σ₆ BR truthy c K KE) KE) KE else K false σ₄) KE) KE) KE) KE) :
    EvT X m σ (.Compare l [op₁, op₂] [r₁, r₂] p) K KE := fun s S _ Q E q e => by
  refine isTrue_chain (h s S trivial _ E (fun a am σ₁ s₁ h₁ S₁ T₁ q₁ => ?_) e) hm
  show wpAny _ _ (do
    let rv ← holding [a] (eval r₁ X.env)
    standAt p
    let c ← holding [a, rv] (compareOp op₁ a rv)
    release [a, rv] [c]
    if ← holding [c, rv] (truthy c) then testChain p rv [op₂] [eval r₂ X.env] else pure false) _ _ _
  have e1 := e.after T₁
  refine wpAny_bind (wpAny_holding (h₁ s₁ S₁ trivial _ E (fun b bm σ₂ s₂ h₂ S₂ T₂ q₂ => wpAny_bind (wpAny_standAt (wpAny_bind (wpAny_holding ?_)))) e1))
  have e2 := e1.after T₂
  refine h₂ a b s₂ S₂ ⟨q₁.move (S₁.fx T₂), q₂⟩ _ E (fun c cm σ₃ s₃ h₃ S₃ T₃ q₃ => wpAny_bind (wpAny_release' (wpAny_bind (wpAny_holding ?_)))) e2
  have e3 := e2.after T₃
  refine h₃ c s₃ S₃ q₃ _ E (fun t' t σ₄ s₄ h₄ S₄ T₄ q₄ => ?_) e3
  have : t' = t := q₄
  subst this
  have e4 := e3.after T₄
  have o4 := (((q.after T₁).after T₂).after T₃).after T₄
  cases t' with
  | false => exact wpAny_pure (o4 false false σ₄ s₄ h₄ S₄ Tr.refl rfl)
  | true =>
    show wpAny _ _ (do
      let rv ← holding [b] (eval r₂ X.env)
      standAt p
      let c ← operate [b, rv] (compareOp op₂ b rv)
      holding [c] (truthy c)) _ _ _
    refine wpAny_bind (wpAny_holding (h₄ s₄ S₄ trivial _ E (fun d dm σ₅ s₅ h₅ S₅ T₅ q₅ => wpAny_bind (wpAny_standAt (wpAny_bind (wpAny_operate' ?_)))) e4))
    have e5 := e4.after T₅
    refine h₅ b d s₅ S₅ ⟨((q₂.move (S₂.fx T₃)).move (S₃.fx T₄)).move (S₄.fx T₅), q₅⟩ _ E (fun c' cm' σ₆ s₆ h₆ S₆ T₆ q₆ => wpAny_holding ?_) e5
    exact h₆ c' s₆ S₆ q₆ Q E ((o4.after T₅).after T₆) (e5.after T₆)
theorem cv_isinst_int {i : Int} {K} (h : K (.bool true) σ) : CallV X m σ (.builtin "isinstance") [.int i, .raw (.type "int")] [] K KE := fun vals kw s S p Q E q e => by
  obtain ⟨v, u, rfl, hv, hu⟩ := VRs.two p.1
  obtain ⟨t, rfl⟩ := VR.int hv
  obtain rfl := VR.raw hu
  obtain rfl := KVs.no p.2
  exact call_isinstance_yes (Tx := "int") rfl (by rfl) (by rw [isSubtype_type]; kernel_rfl) (q _ (.bool true) σ s h S Tr.refl VR.ofBool)
theorem cv_isinst_inst {x C d : Addr} {K} (hi : σ.I x = some (C, d)) (he : isIn X.C.K (.ref C) C = true) (h : K (.bool true) σ) : CallV X m σ (.builtin "isinstance") [.ref x, .raw (.ref C)] [] K KE := fun vals kw s S p Q E q e => by
  obtain ⟨v, u, rfl, hv, hu⟩ := VRs.two p.1
  obtain rfl := VR.ref hv
  obtain rfl := VR.raw hu
  obtain rfl := KVs.no p.2
  exact isi_call S.K (t := .ref C) (fun M => (Looks.ld (S.objs.I x C d hi)).andThen .now) he (by nofun) (q _ (.bool true) σ s h S Tr.refl VR.ofBool)
end
section
variable {X : Fx} {m : Loc} {σ : MHeap} {K : Loc → MHeap → Prop} {KE : Value → Loc → MHeap → Prop}
noncomputable abbrev AsO (X : Fx) (m : Loc) (σ : MHeap) (ts : List Expr) (vs : List MV) (K : Loc → MHeap → Prop) (KE : Value → Loc → MHeap → Prop) : Prop :=
  ∀ us, RunL X m σ UR (fun h => VRs h vs us) (assignInOrder ((assignEach ts X.env).map (·.2)) us) (fun _ m' σ' => K m' σ') KE
theorem ao_nil (h : K m σ) : AsO X m σ [] [] K KE := fun us s S r Q E q e => by
  obtain rfl := VRs.no r
  exact wpAny_pure (q () () m σ s h S Tr.refl trivial)
theorem assign_cons {t : Expr} {ts : List Expr} {env : Env} (h : noStar t = true) : assignEach (t :: ts) env = (false, assign t env) :: assignEach ts env := by
  cases t <;> first | rfl | cases h
theorem ao_cons {t ts v vs} (hs : noStar t = true) (h : AsT X m σ t v (fun m₁ σ₁ => AsO X m₁ σ₁ ts vs K KE) KE) : AsO X m σ (t :: ts) (v :: vs) K KE := fun us s S r Q E q e => by
  unfold VRs at r
  obtain ⟨u, rest, rfl, hu, hr⟩ := r
  rw [assign_cons hs]
  show wpAny _ _ (do holding rest (assign t X.env u); assignInOrder ((assignEach ts X.env).map (·.2)) rest) _ _ _
  refine wpAny_bind (wpAny_holding (h u s S hu _ _ (fun _ _ m₁ σ₁ s₁ h₁ S₁ T₁ _ => ?_) e))
  exact h₁ rest s₁ S₁ (hr.move (S.fxL T₁)) Q E (q.after T₁) (e.after T₁)
theorem assignEach_length {env : Env} : ∀ {ts : List Expr}, ts.all noStar = true → (assignEach ts env).length = ts.length ∧ (assignEach ts env).findIdx? (·.1) = none
  | [], _ => ⟨rfl, rfl⟩
  | t :: ts, h => by
    rw [List.all_cons, Bool.and_eq_true] at h
    rw [assign_cons h.1]
    obtain ⟨a, b⟩ := assignEach_length (env := env) h.2
    exact ⟨by simp [a], by rw [List.findIdx?_cons, b]; rfl⟩
theorem as_tupleA {ts x1 p vs} (hs : ts.all noStar = true) (hl : ts.length = vs.length) (h : AsO X m σ ts vs K KE) : AsT X m σ (.Tuple ts x1 p) (.tup vs) K KE := fun u s S r Q E q e => by
  obtain ⟨a, us, rfl, it, hr⟩ := VR.tup r
  obtain ⟨e1, e2⟩ := assignEach_length (env := X.env) hs
  refine unpack_any S.hnd it (by rw [e1, hl, ← hr.length]; simp) e2 fun h' hs' => ?_
  have k : ∀ b o, s.heap.get? b = some o → h'.get? b = some o := fun b o z => hs' b o (Nat.ne_of_lt (Heap.lt_size z)) z
  have T : Tr X.fs [] σ s.heap σ h' := ⟨fun b o z _ _ _ => k b o z, fun b o z _ _ => ⟨o.slots, k b o z⟩, fun b o z => ⟨o, k b o z⟩, fun b d => .inl d⟩
  have S' : SmF X m σ { s with heap := h' } := S.stepE (tk := s.toks) T (S.objs.keep k)
  exact h us.toList _ S' (hr.move fun b o z _ => k b o z) Q E (q.after T.own) (e.after T.own)
end
section
variable {X : Fx} {m : Loc} {σ : MHeap} {K : FlowM → Loc → MHeap → Prop} {KE : Value → Loc → MHeap → Prop}
theorem r1_Assign_tuple {ts x1 p value pos} (hs : swapsWithSole [.Tuple ts x1 p] value pos.line X.env = pure false) (hw : swappedStores [.Tuple ts x1 p] value X.env = pure none)
    (h : EvE X m σ value (fun v σ₁ => AsT X m σ₁ (.Tuple ts x1 p) v (fun m' σ₂ => K .next m' σ₂) KE) (fun x σ' => KE x m σ')) : Run1 X m σ (.Assign [.Tuple ts x1 p] value pos) K KE := fun s S _ Q E q e =>
  Assign_Tuple (h s S trivial _ E (fun a v σ₁ s₁ h₁ S₁ T₁ r₁ => h₁ a s₁ S₁ r₁ _ E (fun _ _ m' σ₂ s₂ k S₂ T₂ _ => q _ .next m' σ₂ s₂ k S₂ (T₁.own.trans T₂) rfl) (e.after T₁.own)) (e.er m)) hs hw
end
end Mine
namespace Mine
section
variable {X : Fx} {m : Loc} {σ : MHeap} {KE : Value → MHeap → Prop}
theorem Room.units {A : Around} {n : Nat} (h : Room A n) : A.units < cLine := by
  have := h.2
  have e : cLine = 9900 := rfl
  omega
theorem rc_inst {op : CmpOp} {x y C d d' f n : Nat} {b : Bool} {K} (hr : Room X.A n) (hi : σ.I x = some (C, d)) (hj : σ.I y = some (C, d')) (hs : findIn X.C.K (.ref C) (cmpInfo op).2.1 = some (some (.ref f))) (hf : isFn X.C.K (.ref f) = true)
    (h : CallV X m σ (.ref f) [.ref x, .ref y] [] (fun v σ' => v = .bool b ∧ K (.bool b) σ') KE) : Op2 X m σ VR (richCompare op) (.ref x) (.ref y) K KE := fun v u s S p Q E q e => by
  obtain rfl := VR.ref p.1
  obtain rfl := VR.ref p.2
  have Ix : InstAt s.heap x (instObj C d) C none ∨ True := .inr trivial
  have tx : ∀ M, Looks M s.heap (typeOf (.ref x)) (.ref C) := fun M => (Looks.ld (S.objs.I x C d hi)).andThen .now
  have ty : ∀ M, Looks M s.heap (typeOf (.ref y)) (.ref C) := fun M => (Looks.ld (S.objs.I y C d' hj)).andThen .now
  have fin : wpAny X.C.M X.A (call (.ref f) [.ref x, .ref y]) (fun v s' => v = .bool b ∧ Q (.bool b) s') E s :=
    h [.ref x, .ref y] [] s S ⟨VRs.cons VR.ofRef (VRs.cons VR.ofRef VRs.nil), rfl⟩ _ E (fun a bm σ' s' k S' T r => by
      obtain ⟨rfl, k⟩ := k
      obtain rfl := VR.bool r
      exact ⟨rfl, q _ _ σ' s' k S' T VR.ofBool⟩) e
  have bound : wpAny X.C.M X.A (callSpecialIfBound? (.ref x) (cmpInfo op).2.1 [.ref y]) (fun r s' => r = some (.bool b) ∧ Q (.bool b) s') E s := by
    simp only [callSpecialIfBound?, bindSpecialIfBound?]
    refine wpAny_holding (wpAny_bind (wpAny_bind (wpAny_bind ((tx _).here ((looks_findIn S.K hs).here ?_)))))
    have last : wpAny X.C.M X.A (call (.ref f) ([.ref x] ++ [.ref y]) >>= fun v => pure (some v)) (fun r s' => r = some (.bool b) ∧ Q (.bool b) s') E s := wpAny_bind (wpAny_mono fin (fun v s' z => by obtain ⟨rfl, z⟩ := z; exact wpAny_pure ⟨rfl, z⟩) fun _ _ z => z)
    refine wpAny_bind (wpAny_askSetting (wpAny_ite ?_))
    split
    · exact wpAny_bind ((bind_fn S.K _ (beq_iff_eq.mp hf)).here (wpAny_pure (by exact last)))
    · exact wpAny_tryCatch (wpAny_bind ((bind_fn S.K _ (beq_iff_eq.mp hf)).here (wpAny_pure (by exact last))))
  have one : wpAny X.C.M X.A (tryCompare (.ref x) (cmpInfo op).2.1 (.ref y)) (fun r s' => r = some (.bool b) ∧ Q (.bool b) s') E s := by
    unfold tryCompare
    refine wpAny_bind (wpAny_mono bound (fun r s' z => ?_) fun _ _ z => z)
    obtain ⟨rfl, z⟩ := z
    exact wpAny_pure ⟨rfl, z⟩
  unfold richCompare
  simp only [oneThing_ref]
  refine wpAny_holding (wpAny_bind (wpAny_cRoomFor hr.units ?_))
  refine wpAny_bind ((tx _).here (wpAny_bind ((ty _).here ?_)))
  simp only [bne_self_eq_false, Bool.false_and, Bool.false_eq_true, if_false]
  refine wpAny_bind (wpAny_pure ?_)
  simp only [Bool.false_eq_true, if_false]
  refine wpAny_bind (wpAny_mono one (fun r s' z => ?_) fun _ _ z => z)
  obtain ⟨rfl, z⟩ := z
  exact wpAny_pure z
noncomputable abbrev Fx.mk1 (X : Fx) : Fx := { X with A := { X.A with depth := X.A.depth + 1, units := X.A.units + 1 } }
theorem under_make {A : Around} {C : Addr} {rest : List Value} {kw : List (Str × Value)} : A.under (.builtin "type.__call__" ⟨.ref C :: rest, kw⟩) = { A with depth := A.depth + 1, units := A.units + 1 } := by
  obtain ⟨hd, d, fr, gs, u⟩ := A
  cases fr <;> cases gs <;> rfl
theorem SmF.mk1 {s : Shared} (S : SmF X m σ s) : SmF X.mk1 m σ s := { toSm := S.toSm, ok := { frames := S.ok.frames, top := S.ok.top, fn := S.ok.fn, gl := S.ok.gl, bl := S.ok.bl, nb := S.ok.nb, cellsApart := S.ok.cellsApart, localsApart := S.ok.localsApart }, frame := S.frame, sepo := S.sepo, ownc := S.ownc }
theorem SmF.unmk1 {s : Shared} (S : SmF X.mk1 m σ s) : SmF X m σ s := { toSm := S.toSm, ok := { frames := S.ok.frames, top := S.ok.top, fn := S.ok.fn, gl := S.ok.gl, bl := S.ok.bl, nb := S.ok.nb, cellsApart := S.ok.cellsApart, localsApart := S.ok.localsApart }, frame := S.frame, sepo := S.sepo, ownc := S.ownc }
theorem cv_make {C fI : Addr} {vs : List MV} {ks : List (Str × MV)} {K} (hm : makesIn X.C.K C = true) (hi : findIn X.C.K (.ref C) "__init__" = some (some (.ref fI))) (hf : typeIn X.C.K (.ref fI) = some (.type "function"))
    (h : ∀ x d, ¬ σ.Dom x → ¬ σ.Dom d → x ≠ d → ∀ vals kw, RunC X.mk1 m ((σ.setS d []).setI x (C, d)) (fun h => VRs h vs vals ∧ KVs h ks kw) (.call (.ref fI) ⟨.ref x :: vals, kw⟩) (fun v σ' => v = .none ∧ K (.ref x) σ') KE) :
    CallV X m σ (.ref C) vs ks K KE := fun vals kw => RunC.call fun s S p R q e => by
  obtain ⟨S₁, T₁⟩ := S.push (o := emptyDict) (tk := s.toks) rfl (SameOff.setS (x := [])) (AtD.sdict S.objs (.inr S.fresh.1) (Heap.DictOf.new _) rfl)
  obtain ⟨S₂, T₂⟩ := S₁.push (o := instObj C s.heap.objs.size) (tk := s.toks) rfl (SameOff.setI (x := (C, s.heap.objs.size))) (AtD.inst S₁.objs S₁.fresh.1 (Heap.get?_push_size _ rfl))
  have e1 : (s.heap.push emptyDict).objs.size = s.heap.objs.size + 1 := Heap.size_push _ _
  have hx := S₁.fresh.2
  have hx' : ¬ σ.Dom (s.heap.objs.size + 1) := fun z => by
    obtain ⟨o, ho⟩ := S.objs.there z
    exact absurd (Heap.lt_size ho) (Nat.not_lt.mpr (Nat.le_succ _))
  simp only [e1] at S₂ T₂
  obtain ⟨hp, g, d, tk, os⟩ := s
  refine make_core (makes_of S.K hm) (looks_findIn S.K hi) (fun self => bind_fn S.K self hf) (.inl rfl) ?_
  rw [under_make]
  have T := T₁.trans T₂
  have pv : VRs ((hp.push emptyDict).push (instObj C hp.objs.size)) vs vals ∧ KVs ((hp.push emptyDict).push (instObj C hp.objs.size)) ks kw := ⟨p.1.move (S.fx T), p.2.move (S.fx T)⟩
  refine h (hp.objs.size + 1) hp.objs.size hx' S.fresh.2 (Nat.succ_ne_self _) vals kw _ S₂.mk1 pv _ (fun v mv σ' s' k S' T' r => ?_) (fun ev x σ' s' k S' T' r => ?_)
  · obtain ⟨rfl, k⟩ := k
    obtain rfl := VR.none r
    exact ⟨rfl, q _ (.ref _) σ' s' k S'.unmk1 (T.trans T') VR.ofRef⟩
  · exact e ev x σ' s' k S'.unmk1 (T.trans T') (ExcAt.start r T.there)
end
end Mine
namespace Mine
structure Node where
  d : Addr
  c : Addr
  u : Addr
  id : Int
  w : Int
  par : MV
  kids : List Addr
  q : List (Int × Addr)
  act : Bool
  last : Int
  dft : Int
noncomputable def attrs (n : Node) : List (Str × MV) := [("stream_id", .int n.id), ("_weight", .int n.w), ("children", .ref n.c), ("parent", n.par), ("child_queue", .ref n.u), ("active", .bool n.act), ("last_weight", .int n.last), ("_deficit", .int n.dft)]
noncomputable def qm (q : List (Int × Addr)) : List MV := q.map fun p => .tup [.int p.1, .ref p.2]
noncomputable def km (k : List Addr) : List MV := k.map .ref
structure StAt (cS : Addr) (σ : MHeap) (x : Addr) (n : Node) : Prop where
  I : σ.I x = some (cS, n.d)
  S : σ.S n.d = some (attrs n)
  C : σ.L n.c = some (km n.kids)
  Q : σ.L n.u = some (qm n.q)
noncomputable abbrev Tree := Addr → Option Node
noncomputable def upT (T : Tree) (x : Addr) (n : Node) : Tree := fun y => if y = x then some n else T y
theorem upT_self {T : Tree} {x : Addr} {n : Node} : upT T x n x = some n := if_pos rfl
theorem upT_ne {T : Tree} {x y : Addr} {n : Node} (h : y ≠ x) : upT T x n y = T y := if_neg h
structure Rep (cS : Addr) (σ : MHeap) (T : Tree) : Prop where
  at_ : ∀ x n, T x = some n → StAt cS σ x n
  sd : ∀ x y n n', T x = some n → T y = some n' → n.d = n'.d → x = y
  sc : ∀ x y n n', T x = some n → T y = some n' → n.c = n'.c → x = y
  su : ∀ x y n n', T x = some n → T y = some n' → n.u = n'.u → x = y
  scu : ∀ x y n n', T x = some n → T y = some n' → n.c ≠ n'.u
theorem up_ne {α : Type} (f : Addr → Option α) {a b : Addr} (x : α) (h : b ≠ a) : MHeap.up f a x b = f b := by unfold MHeap.up; rw [if_neg h]
section
variable {cS : Addr} {σ : MHeap} {T : Tree}
structure SameAt (n n' : Node) : Prop where
  d : n'.d = n.d
  c : n'.c = n.c
  u : n'.u = n.u
theorem Rep.upd {σ' : MHeap} (R : Rep cS σ T) {x : Addr} {n n' : Node} (hx : T x = some n) (sa : SameAt n n') (h : StAt cS σ' x n') (k : ∀ y m, y ≠ x → T y = some m → StAt cS σ' y m) : Rep cS σ' (upT T x n') := by
  have key : ∀ y m, upT T x n' y = some m → ∃ m', T y = some m' ∧ SameAt m' m := fun y m hy => by
    by_cases e : y = x
    · subst e; rw [upT_self] at hy; cases hy; exact ⟨n, hx, sa⟩
    · rw [upT_ne e] at hy; exact ⟨m, hy, rfl, rfl, rfl⟩
  refine ⟨fun y m hy => ?_, fun y z m m' hy hz e => ?_, fun y z m m' hy hz e => ?_, fun y z m m' hy hz e => ?_, fun y z m m' hy hz e => ?_⟩
  · by_cases e : y = x
    · subst e; rw [upT_self] at hy; cases hy; exact h
    · rw [upT_ne e] at hy; exact k y m e hy
  · obtain ⟨a, ha, sa⟩ := key y m hy
    obtain ⟨b, hb, sb⟩ := key z m' hz
    exact R.sd y z a b ha hb (by rw [← sa.d, ← sb.d]; exact e)
  · obtain ⟨a, ha, sa⟩ := key y m hy
    obtain ⟨b, hb, sb⟩ := key z m' hz
    exact R.sc y z a b ha hb (by rw [← sa.c, ← sb.c]; exact e)
  · obtain ⟨a, ha, sa⟩ := key y m hy
    obtain ⟨b, hb, sb⟩ := key z m' hz
    exact R.su y z a b ha hb (by rw [← sa.u, ← sb.u]; exact e)
  · obtain ⟨a, ha, sa⟩ := key y m hy
    obtain ⟨b, hb, sb⟩ := key z m' hz
    exact R.scu y z a b ha hb (by rw [← sa.c, ← sb.u]; exact e)
theorem Rep.setS (R : Rep cS σ T) {x : Addr} {n n' : Node} (hx : T x = some n) (sa : SameAt n n') (hk : n'.kids = n.kids) (hq : n'.q = n.q) : Rep cS (σ.setS n.d (attrs n')) (upT T x n') := by
  have A := R.at_ x n hx
  refine R.upd hx sa ⟨by rw [sa.d]; exact A.I, by rw [sa.d]; exact up_self _ _ _, by rw [sa.c, hk]; exact A.C, by rw [sa.u, hq]; exact A.Q⟩ fun y m hy hm => ?_
  have B := R.at_ y m hm
  exact ⟨B.I, (up_ne _ _ fun e => hy (R.sd y x m n hm hx e)).trans B.S, B.C, B.Q⟩
theorem Rep.setQ (R : Rep cS σ T) {x : Addr} {n : Node} (hx : T x = some n) (q : List (Int × Addr)) : Rep cS (σ.setL n.u (qm q)) (upT T x { n with q := q }) := by
  have A := R.at_ x n hx
  refine R.upd hx ⟨rfl, rfl, rfl⟩ ⟨A.I, A.S, (up_ne _ _ (R.scu x x n n hx hx)).trans A.C, up_self _ _ _⟩ fun y m hy hm => ?_
  have B := R.at_ y m hm
  exact ⟨B.I, B.S, (up_ne _ _ (R.scu y x m n hm hx)).trans B.C, (up_ne _ _ fun e => hy (R.su y x m n hm hx e)).trans B.Q⟩
theorem Rep.setC (R : Rep cS σ T) {x : Addr} {n : Node} (hx : T x = some n) (k : List Addr) : Rep cS (σ.setL n.c (km k)) (upT T x { n with kids := k }) := by
  have A := R.at_ x n hx
  refine R.upd hx ⟨rfl, rfl, rfl⟩ ⟨A.I, A.S, up_self _ _ _, (up_ne _ _ (Ne.symm (R.scu x x n n hx hx))).trans A.Q⟩ fun y m hy hm => ?_
  have B := R.at_ y m hm
  exact ⟨B.I, B.S, (up_ne _ _ fun e => hy (R.sc y x m n hm hx e)).trans B.C, (up_ne _ _ (Ne.symm (R.scu x y n m hx hm))).trans B.Q⟩
noncomputable def Foot (T : Tree) (a : Addr) : Prop := ∃ x n, T x = some n ∧ (a = x ∨ a = n.d ∨ a = n.c ∨ a = n.u)
noncomputable def Agree (σ σ' : MHeap) (a : Addr) : Prop := σ'.I a = σ.I a ∧ σ'.L a = σ.L a ∧ σ'.D a = σ.D a ∧ σ'.S a = σ.S a ∧ σ'.E a = σ.E a
theorem Agree.refl {a : Addr} : Agree σ σ a := ⟨rfl, rfl, rfl, rfl, rfl⟩
theorem Agree.trans {σ' σ'' : MHeap} {a : Addr} (x : Agree σ σ' a) (y : Agree σ' σ'' a) : Agree σ σ'' a :=
  ⟨y.1.trans x.1, y.2.1.trans x.2.1, y.2.2.1.trans x.2.2.1, y.2.2.2.1.trans x.2.2.2.1, y.2.2.2.2.trans x.2.2.2.2⟩
theorem Agree.dom {σ' : MHeap} {a : Addr} (x : Agree σ σ' a) : σ'.Dom a ↔ σ.Dom a := by
  unfold MHeap.Dom
  rw [x.1, x.2.1, x.2.2.1, x.2.2.2.1]
theorem Rep.agree {σ' : MHeap} (R : Rep cS σ T) (h : ∀ a, Foot T a → Agree σ σ' a) : Rep cS σ' T := by
  refine ⟨fun x n hx => ?_, R.sd, R.sc, R.su, R.scu⟩
  have A := R.at_ x n hx
  exact ⟨(h x ⟨x, n, hx, .inl rfl⟩).1.trans A.I, (h n.d ⟨x, n, hx, .inr (.inl rfl)⟩).2.2.2.1.trans A.S, (h n.c ⟨x, n, hx, .inr (.inr (.inl rfl))⟩).2.1.trans A.C, (h n.u ⟨x, n, hx, .inr (.inr (.inr rfl))⟩).2.1.trans A.Q⟩
theorem Rep.dom (R : Rep cS σ T) {a : Addr} (h : Foot T a) : σ.Dom a := by
  obtain ⟨x, n, hx, h⟩ := h
  have A := R.at_ x n hx
  rcases h with rfl | rfl | rfl | rfl
  · exact domI A.I
  · exact domS A.S
  · exact domL A.C
  · exact domL A.Q
end
section
variable {X : Fx} {m : Loc} {σ : MHeap} {KE : Value → MHeap → Prop} {cS : Addr} {x : Addr} {n : Node}
structure ClsOk (K : Frag) (cS p g s : Addr) : Prop where
  id : ownIn K cS "stream_id" = true
  w : ownIn K cS "_weight" = true
  ch : ownIn K cS "children" = true
  par : ownIn K cS "parent" = true
  qu : ownIn K cS "child_queue" = true
  act : ownIn K cS "active" = true
  last : ownIn K cS "last_weight" = true
  dft : ownIn K cS "_deficit" = true
  sid : setIn K cS "stream_id" = true
  sw : setIn K cS "_weight" = true
  sch : setIn K cS "children" = true
  spar : setIn K cS "parent" = true
  squ : setIn K cS "child_queue" = true
  sact : setIn K cS "active" = true
  slast : setIn K cS "last_weight" = true
  sdft : setIn K cS "_deficit" = true
  prop : propIn K cS "weight" p g s = true
  pset : propSet K cS "weight" p = true
section
variable {p g s : Addr} {ex : Bool} {K : MV → MHeap → Prop}
theorem ga_id (hK : ClsOk X.C.K cS p g s) (A : StAt cS σ x n) (h : K (.int n.id) σ) : Op1 X m σ VR (fun o => getAttr o "stream_id" ex) (.ref x) K KE := ga_own A.I A.S hK.id (by kernel_rfl) (by rfl) h
theorem ga_w (hK : ClsOk X.C.K cS p g s) (A : StAt cS σ x n) (h : K (.int n.w) σ) : Op1 X m σ VR (fun o => getAttr o "_weight" ex) (.ref x) K KE := ga_own A.I A.S hK.w (by kernel_rfl) (by rfl) h
theorem ga_ch (hK : ClsOk X.C.K cS p g s) (A : StAt cS σ x n) (h : K (.ref n.c) σ) : Op1 X m σ VR (fun o => getAttr o "children" ex) (.ref x) K KE := ga_own A.I A.S hK.ch (by kernel_rfl) (by rfl) h
theorem ga_qu (hK : ClsOk X.C.K cS p g s) (A : StAt cS σ x n) (h : K (.ref n.u) σ) : Op1 X m σ VR (fun o => getAttr o "child_queue" ex) (.ref x) K KE := ga_own A.I A.S hK.qu (by kernel_rfl) (by rfl) h
theorem ga_act (hK : ClsOk X.C.K cS p g s) (A : StAt cS σ x n) (h : K (.bool n.act) σ) : Op1 X m σ VR (fun o => getAttr o "active" ex) (.ref x) K KE := ga_own A.I A.S hK.act (by kernel_rfl) (by rfl) h
theorem ga_last (hK : ClsOk X.C.K cS p g s) (A : StAt cS σ x n) (h : K (.int n.last) σ) : Op1 X m σ VR (fun o => getAttr o "last_weight" ex) (.ref x) K KE := ga_own A.I A.S hK.last (by kernel_rfl) (by rfl) h
theorem ga_dft (hK : ClsOk X.C.K cS p g s) (A : StAt cS σ x n) (h : K (.int n.dft) σ) : Op1 X m σ VR (fun o => getAttr o "_deficit" ex) (.ref x) K KE := ga_own A.I A.S hK.dft (by kernel_rfl) (by rfl) h
end
section
variable {p g s : Addr} {K : MHeap → Prop}
theorem attrs_len (n : Node) : (attrs n).length ≤ 1000 := by show 8 ≤ 1000; omega
theorem sa_last {v : Int} (hK : ClsOk X.C.K cS p g s) (A : StAt cS σ x n) (h : K (σ.setS n.d (attrs { n with last := v }))) : SetA X m σ "last_weight" (.ref x) (.int v) K KE := sa_own A.I A.S hK.slast (attrs_len n) (by rw [show putK (attrs n) "last_weight" (.int v) = attrs { n with last := v } from by kernel_rfl]; exact h)
theorem sa_dft {v : Int} (hK : ClsOk X.C.K cS p g s) (A : StAt cS σ x n) (h : K (σ.setS n.d (attrs { n with dft := v }))) : SetA X m σ "_deficit" (.ref x) (.int v) K KE := sa_own A.I A.S hK.sdft (attrs_len n) (by rw [show putK (attrs n) "_deficit" (.int v) = attrs { n with dft := v } from by kernel_rfl]; exact h)
theorem sa_act {v : Bool} (hK : ClsOk X.C.K cS p g s) (A : StAt cS σ x n) (h : K (σ.setS n.d (attrs { n with act := v }))) : SetA X m σ "active" (.ref x) (.bool v) K KE := sa_own A.I A.S hK.sact (attrs_len n) (by rw [show putK (attrs n) "active" (.bool v) = attrs { n with act := v } from by kernel_rfl]; exact h)
theorem sa_par {v : MV} (hK : ClsOk X.C.K cS p g s) (A : StAt cS σ x n) (h : K (σ.setS n.d (attrs { n with par := v }))) : SetA X m σ "parent" (.ref x) v K KE := sa_own A.I A.S hK.spar (attrs_len n) (by rw [show putK (attrs n) "parent" v = attrs { n with par := v } from by kernel_rfl]; exact h)
end
end
end Mine
namespace Mine
noncomputable def nodupB : List Str → Bool
  | [] => true
  | x :: r => !(r.contains x) && nodupB r
theorem nodupB_is : ∀ {l : List Str}, nodupB l = true → l.Nodup
  | [], _ => .nil
  | x :: r, h => by
    unfold nodupB at h
    rw [Bool.and_eq_true, Bool.not_eq_true'] at h
    rw [List.nodup_cons]
    refine ⟨fun q => ?_, nodupB_is h.2⟩
    rw [List.contains_iff_mem.mpr q] at h
    cases h.1
noncomputable def fnChk (fd : FuncData) (ps : List Str) : Bool := fd.scope.names.all (fun x => !(x.2 == .cell)) && (ps.all (fun x => fd.scope.names.lookup x == some .local && okName x) && nodupB ps)
section
variable {X : Fx} {m : Loc} {σ : MHeap} {K : MV → MHeap → Prop} {KE : Value → MHeap → Prop}
noncomputable def BindsV (C : Cx) (fd : FuncData) (vs : List MV) (ks : List (Str × MV)) (m₀ : Loc) : Prop :=
  ∀ vals kw h, VRs h vs vals → KVs h ks kw → ∃ binds, (∀ s : Shared, C.K.In s.heap → BindsTo s fd ⟨vals, kw⟩ binds) ∧ KVs h m₀ binds
theorem cv_fnC {a : Addr} {fd : FuncData} {body : List Stmt} {vs : List MV} {ks : List (Str × MV)} {m₀ : Loc} {ps : List Str} (F : FnOk X.C a fd body) (hroom : X.A.depth < recursionLimit) (hps : m₀.map (·.1) = ps) (hc : fnChk fd ps = true)
    (hb : BindsV X.C fd vs ks m₀) (h : ∀ L, RunS (X.into (callEnv fd L a)) m₀ σ body (fun f _ σ' => K (retOf f) σ') (fun x _ σ' => KE x σ')) (vals : List Value) (kw : List (Str × Value)) :
    RunC X m σ (fun h => VRs h vs vals ∧ KVs h ks kw) (.call (.ref a) ⟨vals, kw⟩) K KE := fun s S p R q e => by
  obtain ⟨c1, c2⟩ := Bool.and_eq_true_iff.mp hc
  obtain ⟨c2, c3⟩ := Bool.and_eq_true_iff.mp c2
  obtain ⟨binds, b1, b2⟩ := hb vals kw _ p.1 p.2
  refine call_fnC (pre := fun h => KVs h m₀ binds) F hroom (fun x hx z => ?_) (fun x hx => ?_) (by rw [hps]; exact nodupB_is c3) b1 (fun h q => q) h s S b2 R q e
  · have := List.all_eq_true.mp c1 x hx
    rw [z] at this; cases this
  · rw [hps] at hx
    have := List.all_eq_true.mp c2 x hx
    rw [Bool.and_eq_true] at this
    exact ⟨beq_iff_eq.mp this.1, this.2⟩
theorem cv_fn {a : Addr} {fd : FuncData} {body : List Stmt} {vs : List MV} {ks : List (Str × MV)} {m₀ : Loc} {ps : List Str} (F : FnOk X.C a fd body) (hroom : X.A.depth < recursionLimit) (hps : m₀.map (·.1) = ps) (hc : fnChk fd ps = true)
    (hb : BindsV X.C fd vs ks m₀) (h : ∀ L, RunS (X.into (callEnv fd L a)) m₀ σ body (fun f _ σ' => K (retOf f) σ') (fun x _ σ' => KE x σ')) : CallV X m σ (.ref a) vs ks K KE :=
  fun vals kw => (cv_fnC F hroom hps hc hb h vals kw).call
theorem b1 {C : Cx} {fd : FuncData} {p : Str} {a : MV} (h : ∀ v, bindArgs fd ⟨[v], []⟩ = pure [(p, v)]) : BindsV C fd [a] [] [(p, a)] := fun vals kw hp r k => by
  obtain ⟨v, rfl, hv⟩ := VRs.one r
  obtain rfl := KVs.no k
  exact ⟨_, fun s _ => BindsTo.of_eq (h v), v, [], rfl, hv, rfl⟩
theorem b2 {C : Cx} {fd : FuncData} {p q : Str} {a b : MV} (h : ∀ v u, bindArgs fd ⟨[v, u], []⟩ = pure [(p, v), (q, u)]) : BindsV C fd [a, b] [] [(p, a), (q, b)] := fun vals kw hp r k => by
  obtain ⟨v, u, rfl, hv, hu⟩ := VRs.two r
  obtain rfl := KVs.no k
  exact ⟨_, fun s _ => BindsTo.of_eq (h v u), v, _, rfl, hv, u, [], rfl, hu, rfl⟩
end
section
variable {X : Fx} {m : Loc} {σ σ₀ : MHeap} {K : MHeap → Prop} {KE : Value → MHeap → Prop}
theorem RunC.pre {pre pre' : Heap → Prop} {c : Code} {K : MV → MHeap → Prop} (h : RunC X m σ pre c K KE) (k : ∀ h, pre' h → pre h) : RunC X m σ pre' c K KE := fun s S p R q e => h s S (k _ p) R q e
noncomputable def Ag (σ σ' : MHeap) (S : List Addr) : Prop := ∀ a, a ∉ S → Agree σ σ' a
theorem Ag.refl {S : List Addr} : Ag σ σ S := fun _ _ => Agree.refl
theorem Ag.trans {σ' σ'' : MHeap} {S : List Addr} (x : Ag σ σ' S) (y : Ag σ' σ'' S) : Ag σ σ'' S := fun a h => (x a h).trans (y a h)
theorem Ag.mono {σ' : MHeap} {S S' : List Addr} (x : Ag σ σ' S) (h : ∀ a ∈ S, a ∈ S') : Ag σ σ' S' := fun a n => x a fun q => n (h a q)
theorem SameOff.ag {σ' : MHeap} {d : Addr} {S : List Addr} (x : SameOff d σ σ') (h : d ∈ S) : Ag σ σ' S := fun a n => x a fun e => n (e ▸ h)
theorem sa_step {S : List Addr} {x C d : Addr} {name : Str} {l l' : List (Str × MV)} {v : MV} (hI : σ.I x = some (C, d)) (hS : σ.S d = some l) (hA : Ag σ₀ σ S) (hd : d ∈ S) (hc : setIn X.C.K C name = true) (hl : l.length ≤ 1000) (hp : putK l name v = l')
    (h : ∀ σ', σ'.I x = some (C, d) → σ'.S d = some l' → Ag σ₀ σ' S → (∀ a, σ'.L a = σ.L a) → (∀ a, σ'.Dom a ↔ σ.Dom a) → K σ') : SetA X m σ name (.ref x) v K KE :=
  sa_own hI hS hc hl (by
    rw [hp]
    refine h _ hI (up_self _ _ _) (hA.trans (SameOff.setS.ag hd)) (fun _ => rfl) fun a => ?_
    by_cases e : a = d
    · subst e
      exact ⟨fun _ => domS hS, fun _ => domS (up_self _ _ _)⟩
    · exact ⟨fun z => SameOff.setS.dom e z, fun z => by
        obtain ⟨a1, a2, a3, a4, _⟩ := (SameOff.setS (σ := σ) (x := l')) a e
        unfold MHeap.Dom at z ⊢
        rwa [a1, a2, a3, a4]⟩)
structure NewSt (cS : Addr) (σ σ' : MHeap) (x : Addr) (n : Node) : Prop where
  at_ : StAt cS σ' x n
  ag : Ag σ σ' [x, n.d, n.c, n.u]
  fx : ¬ σ.Dom x
  fd : ¬ σ.Dom n.d
  fc : ¬ σ.Dom n.c
  fu : ¬ σ.Dom n.u
  cu : n.c ≠ n.u
theorem Rep.new {cS : Addr} {σ' : MHeap} {T : Tree} {x : Addr} {n : Node} (R : Rep cS σ T) (N : NewSt cS σ σ' x n) : Rep cS σ' (upT T x n) := by
  have off : ∀ a, Foot T a → Agree σ σ' a := fun a f => N.ag a fun q => by
    have dm := R.dom f
    simp only [List.mem_cons, List.not_mem_nil, or_false] at q
    rcases q with rfl | rfl | rfl | rfl
    · exact N.fx dm
    · exact N.fd dm
    · exact N.fc dm
    · exact N.fu dm
  have R' := R.agree off
  have nw : ∀ y k, upT T x n y = some k → (y = x ∧ k = n) ∨ (y ≠ x ∧ T y = some k) := fun y k h => by
    by_cases e : y = x
    · subst e; rw [upT_self] at h; cases h; exact .inl ⟨rfl, rfl⟩
    · rw [upT_ne e] at h; exact .inr ⟨e, h⟩
  have dd : ∀ y k, T y = some k → σ.Dom y ∧ σ.Dom k.d ∧ σ.Dom k.c ∧ σ.Dom k.u := fun y k h =>
    ⟨R.dom ⟨y, k, h, .inl rfl⟩, R.dom ⟨y, k, h, .inr (.inl rfl)⟩, R.dom ⟨y, k, h, .inr (.inr (.inl rfl))⟩, R.dom ⟨y, k, h, .inr (.inr (.inr rfl))⟩⟩
  refine ⟨fun y k h => ?_, fun y z k k' hy hz e => ?_, fun y z k k' hy hz e => ?_, fun y z k k' hy hz e => ?_, fun y z k k' hy hz e => ?_⟩
  · rcases nw y k h with ⟨rfl, rfl⟩ | ⟨ne, h⟩
    · exact N.at_
    · exact R'.at_ y k h
  · rcases nw y k hy with ⟨rfl, rfl⟩ | ⟨ne, hy1⟩ <;> rcases nw z k' hz with ⟨rfl, rfl⟩ | ⟨ne', hz1⟩
    · rfl
    · exact (N.fd (e ▸ (dd _ _ hz1).2.1)).elim
    · exact (N.fd (e ▸ (dd _ _ hy1).2.1)).elim
    · exact R.sd _ _ _ _ hy1 hz1 e
  · rcases nw y k hy with ⟨rfl, rfl⟩ | ⟨ne, hy1⟩ <;> rcases nw z k' hz with ⟨rfl, rfl⟩ | ⟨ne', hz1⟩
    · rfl
    · exact (N.fc (e ▸ (dd _ _ hz1).2.2.1)).elim
    · exact (N.fc (e ▸ (dd _ _ hy1).2.2.1)).elim
    · exact R.sc _ _ _ _ hy1 hz1 e
  · rcases nw y k hy with ⟨rfl, rfl⟩ | ⟨ne, hy1⟩ <;> rcases nw z k' hz with ⟨rfl, rfl⟩ | ⟨ne', hz1⟩
    · rfl
    · exact (N.fu (e ▸ (dd _ _ hz1).2.2.2)).elim
    · exact (N.fu (e ▸ (dd _ _ hy1).2.2.2)).elim
    · exact R.su _ _ _ _ hy1 hz1 e
  · rcases nw y k hy with ⟨rfl, rfl⟩ | ⟨ne, hy1⟩ <;> rcases nw z k' hz with ⟨rfl, rfl⟩ | ⟨ne', hz1⟩
    · exact N.cu e
    · exact N.fc (e ▸ (dd _ _ hz1).2.2.2)
    · exact N.fu (e ▸ (dd _ _ hy1).2.2.1)
    · exact R.scu _ _ _ _ hy1 hz1 e
end
end Mine
namespace Mine
section
variable {X : Fx} {m : Loc} {σ : MHeap} {K : FlowM → Loc → MHeap → Prop} {KE : Value → Loc → MHeap → Prop}
theorem r1_Try0 {body orelse h₀ hs p} (h : RunS X m σ body (seqK X orelse K KE) (fun _ _ _ => False)) : Run1 X m σ (.Try body (h₀ :: hs) orelse [] p) K KE := fun s S _ Q E q e =>
  wpAny_Try_except (h s S trivial _ _ (fun f fm m' σ' s' k S' T r => by
    cases fm with
    | next =>
      have : f = .next := r
      subst this
      exact k s' S' trivial Q E (q.after T) (e.after T)
    | brk =>
      have : f = .brk := r
      subst this
      exact q _ .brk m' σ' s' k S' T rfl
    | cont =>
      have : f = .cont := r
      subst this
      exact q _ .cont m' σ' s' k S' T rfl
    | ret v =>
      obtain ⟨u, rfl, r⟩ : ∃ u, f = .ret u ∧ VR s'.heap v u := r
      exact q _ (.ret v) m' σ' s' k S' T ⟨u, rfl, r⟩) (fun ev x m' σ' s' k => k.elim))
noncomputable def finK (K : FlowM → Loc → MHeap → Prop) (f : FlowM) : FlowM → Loc → MHeap → Prop
  | .next, m', σ' => K f m' σ'
  | g, m', σ' => K g m' σ'
theorem fk_next {f} (h : K f m σ) : finK K f .next m σ := h
end
end Mine
namespace Mine
section
variable {X : Fx} {m : Loc} {σ : MHeap} {KE : Value → MHeap → Prop}
noncomputable def PRel (h : Heap) : List (MV × MV) → List (Value × Value) → Prop
  | [], vs => vs = []
  | (a, b) :: l, vs => ∃ v u r, vs = (v, u) :: r ∧ VR h a v ∧ VR h b u ∧ PRel h l r
noncomputable def pairsOf (X : Fx) (pos : Pos) : List (Expr × Expr) → List (Sem Value × Sem Value)
  | [] => []
  | (k, v) :: r => (eval k X.env, do let x ← eval v X.env; standAt pos; pure x) :: pairsOf X pos r
noncomputable abbrev EvPs (X : Fx) (m : Loc) (σ : MHeap) (pos : Pos) (l : List (Expr × Expr)) (K : List (MV × MV) → MHeap → Prop) (KE : Value → MHeap → Prop) : Prop := RunE X m σ PRel (fun _ => True) (evalPairs (pairsOf X pos l)) K KE
theorem ps_nil {pos} {K} (h : K [] σ) : EvPs X m σ pos [] K KE := fun s S _ Q E q e => evalPairs_nil (q _ [] σ s h S Tr.refl rfl)
theorem ps_cons {pos k v r} {K} (h : EvE X m σ k (fun a σ₁ => EvE X m σ₁ v (fun b σ₂ => EvPs X m σ₂ pos r (fun l σ₃ => K ((a, b) :: l) σ₃) KE) KE) KE) : EvPs X m σ pos ((k, v) :: r) K KE := fun s S _ Q E q e =>
  evalPairs_cons (h s S trivial _ E (fun a am σ₁ s₁ h₁ S₁ T₁ r₁ => wpAny_bind (h₁ s₁ S₁ trivial _ E (fun b bm σ₂ s₂ h₂ S₂ T₂ r₂ => wpAny_bind (wpAny_standAt (wpAny_pure (h₂ s₂ S₂ trivial _ E (fun l lm σ₃ s₃ h₃ S₃ T₃ r₃ =>
    q _ _ σ₃ s₃ h₃ S₃ ((T₁.trans T₂).trans T₃) ⟨a, b, l, rfl, (r₁.move (S₁.fx T₂)).move (S₂.fx T₃), r₂.move (S₂.fx T₃), r₃⟩) ((e.after T₁).after T₂))))) (e.after T₁))) e)
noncomputable def intKeys : List (MV × MV) → Option (List (Int × MV))
  | [] => some []
  | (.int i, v) :: r => (intKeys r).map fun l => (i, v) :: l
  | _ => none
noncomputable def putAll {α : Type} [DecidableEq α] (l : List (α × MV)) : List (α × MV) := l.foldl (fun acc kv => putK acc kv.1 kv.2) []
theorem KVs.merged {α : Type} [DecidableEq α] {h : Heap} : ∀ {l : List (α × MV)} {kvs : List (α × Value)} {acc : List (α × MV)} {acc' : List (α × Value)}, KVs h acc acc' → KVs h l kvs → KVs h (l.foldl (fun acc kv => putK acc kv.1 kv.2) acc) (kvs.foldl (fun acc kv => stored acc kv.1 kv.2) acc')
  | [], _, _, _, a, e => by cases e; exact a
  | (x, m) :: r, _, _, _, a, e => by
    obtain ⟨v, l', rfl, hv, hr⟩ := e
    exact KVs.merged (l := r) (kvs := l') (a.put x hv) hr
theorem carries_int {C : Cx} {h : Heap} : ∀ {ms : List (MV × MV)} {vs : List (Value × Value)} {l : List (Int × MV)}, PRel h ms vs → intKeys ms = some l → ∃ kvs, Carries (intKind C.prog C.w) vs kvs ∧ KVs h l kvs
  | [], _, _, e, k => by cases e; cases k; exact ⟨[], trivial, rfl⟩
  | (a, b) :: r, _, l, e, k => by
    obtain ⟨v, u, vs, rfl, hv, hu, hr⟩ := e
    cases a <;> try cases k
    rename_i i
    obtain ⟨l', hl, rfl⟩ := Option.map_eq_some_iff.mp k
    obtain ⟨kvs, c, kv⟩ := carries_int hr hl
    exact ⟨(i, u) :: kvs, ⟨int_is hv, rfl, c⟩, u, kvs, rfl, hu, kv⟩
theorem nodom {a : Addr} (h : ¬ σ.Dom a) : σ.I a = none ∧ σ.L a = none ∧ σ.D a = none ∧ σ.S a = none := by
  unfold MHeap.Dom at h
  simp only [not_or, ne_eq, Classical.not_not] at h
  exact h
theorem AtD.idictNew {C : Cx} {h' : Heap} {a : Addr} {l : List (Int × MV)} {kvs : List (Int × Value)} (nd : ¬ σ.Dom a) (e : h'.DictOf (intKind C.prog C.w) a kvs) (r : KVs h' l kvs) : AtD C (σ.setD a l) h' a := by
  obtain ⟨q1, q2, q3, q4⟩ := nodom nd
  refine ⟨fun c d z => ?_, fun l' z => ?_, fun l' z => ?_, fun l' z => ?_, .inr q4, fun ep z => by have z : MHeap.clr _ _ _ = _ := z; unfold MHeap.clr at z; rw [if_pos rfl] at z; cases z⟩
  · have : σ.I a = some (c, d) := z; rw [q1] at this; cases this
  · have : σ.L a = some l' := z; rw [q2] at this; cases this
  · have : MHeap.up σ.D a l a = some l' := z
    rw [up_self] at this; cases this; exact ⟨kvs, e, r⟩
  · have : σ.S a = some l' := z; rw [q4] at this; cases this
theorem SmF.track {s s₁ : Shared} {σ₁ σ' : MHeap} {h' : Heap} {tk : Nat} (S : SmF X m σ s) (S₁ : SmF X m σ₁ s₁) (T₁ : Tr X.fs [] σ (s.heap.push { cls := .type "dict", data := .dict #[] }) σ₁ s₁.heap) (hs : Heap.SameBut s.heap.objs.size s₁.heap h') (nd : ¬ σ₁.Dom s.heap.objs.size) (so : SameOff s.heap.objs.size σ₁ σ')
    (nf : ∀ o, s₁.heap.get? s.heap.objs.size = some o → ¬ Fixed o) (at_ : AtD X.C σ' h' s.heap.objs.size) : SmF X m σ' { s₁ with heap := h', toks := tk } ∧ Tr X.fs [] σ s.heap σ' h' := by
  have k0 : ∀ b o, s.heap.get? b = some o → (s.heap.push { cls := .type "dict", data := .dict #[] }).get? b = some o := fun b o e => Heap.get?_push_of_some _ e
  have ne : ∀ b o, s.heap.get? b = some o → b ≠ s.heap.objs.size := fun b o e => Nat.ne_of_lt (Heap.lt_size e)
  have kk : ∀ b o, b ≠ s.heap.objs.size → s₁.heap.get? b = some o → h'.get? b = some o := fun b o hb e => hs.extBut b o hb e
  have T : Tr X.fs [] σ s.heap σ' h' := by
    refine ⟨fun b o e n w f => kk b o (ne b o e) (T₁.keep b o (k0 b o e) n w f), fun b o e n w => ?_, fun b o e => ?_, fun b d => ?_⟩
    · obtain ⟨sl, e'⟩ := T₁.slots b o (k0 b o e) n w
      exact ⟨sl, kk b _ (ne b o e) e'⟩
    · obtain ⟨o', e'⟩ := T₁.there b o (k0 b o e)
      exact ⟨o', kk b _ (ne b o e) e'⟩
    · by_cases z : b = s.heap.objs.size
      · subst z; exact .inr S.fresh.1
      · rcases T₁.grow b (so.dom z d) with q | q
        · exact .inl q
        · right
          cases y : s.heap.get? b with
          | none => rfl
          | some o => rw [k0 b o y] at q; cases q
  refine ⟨?_, T⟩
  exact S.stepX T (S₁.objs.upd kk nf so at_) S₁.gens S₁.os
theorem dict_pre {s s₁ : Shared} {σ₁ : MHeap} (S : SmF X m σ s) (T₁ : Tr X.fs [] σ (s.heap.push { cls := .type "dict", data := .dict #[] }) σ₁ s₁.heap) : ¬ σ₁.Dom s.heap.objs.size ∧ s₁.heap.get? s.heap.objs.size = some { cls := .type "dict", data := .dict #[] } := by
  have hp : (s.heap.push { cls := .type "dict", data := .dict #[] }).get? s.heap.objs.size = some { cls := .type "dict", data := .dict #[] } := Heap.get?_push_size _ rfl
  refine ⟨fun d => ?_, T₁.keep _ _ hp S.fresh.2 (fun q => by cases q) fun q => ?_⟩
  · rcases T₁.grow _ d with q | q
    · exact S.fresh.2 q
    · rw [hp] at q; cases q
  · obtain ⟨_, o, e, _⟩ := S.frc _ q
    rw [S.fresh.1] at e; cases e
noncomputable def zipKV : List (Option Expr) → List Expr → Option (List (Expr × Expr))
  | [], [] => some []
  | some k :: ks, v :: vs => (zipKV ks vs).map fun l => (k, v) :: l
  | _, _ => none
theorem shape_of {pos : Pos} : ∀ {keys : List (Option Expr)} {values : List Expr} {l : List (Expr × Expr)}, zipKV keys values = some l →
    (evalEachOpt keys X.env).zip ((evalEach values X.env).map fun v => do let x ← v; standAt pos; pure x) = (pairsOf X pos l).map fun p => (some p.1, p.2)
  | [], [], _, h => by cases h; rfl
  | some k :: ks, v :: vs, _, h => by
    obtain ⟨l, hl, rfl⟩ := Option.map_eq_some_iff.mp h
    have := shape_of (pos := pos) hl
    exact congrArg _ this
  | [], _ :: _, _, h => by cases h
  | none :: _, _, _, h => by cases h
  | some _ :: _, [], _, h => by cases h
theorem pairsOf_length {pos : Pos} : ∀ {l : List (Expr × Expr)}, (pairsOf X pos l).length = l.length
  | [] => rfl
  | (k, v) :: r => by simp [pairsOf, pairsOf_length]
theorem ev_dictI {keys values pos l} {K} (hl : zipKV keys values = some l) (hz : (0 < l.length ∧ l.length ≤ 15))
    (h : EvPs X m σ pos l (fun kvs σ₁ => ∃ ks, intKeys kvs = some ks ∧ ∀ a, ¬ σ₁.Dom a → K (.ref a) (σ₁.setD a (putAll ks))) KE) : EvE X m σ (.Dict keys values pos) K KE := fun s S _ Q E q e => by
  obtain ⟨S₀, T₀⟩ := S.push (o := { cls := .type "dict", data := .dict #[] }) (tk := s.toks) rfl SameOff.refl (AtD.none S.objs S.fresh.1)
  have hshape := shape_of (X := X) (pos := pos) hl
  have h0 : pairsOf X pos l ≠ [] := fun z => by have := pairsOf_length (X := X) (pos := pos) (l := l); rw [z] at this; simp at this; omega
  have hlen : (pairsOf X pos l).length ≤ 15 := by rw [pairsOf_length]; exact hz.2
  refine wpAny_Dict_pairs (knd := intKind X.C.prog X.C.w) hshape h0 hlen (h _ S₀ trivial _ E (fun vs ms σ₁ s₁ h₁ S₁ T₁ r₁ => ?_) (e.after T₀))
  obtain ⟨ks, hks, k⟩ := h₁
  obtain ⟨kvs, hc, hkv⟩ := carries_int (C := X.C) r₁ hks
  obtain ⟨nd, ho⟩ := dict_pre S T₁
  refine ⟨kvs, hc, ⟨_, #[], 0, ho, ⟨rfl, rfl, rfl⟩, rfl, fun _ he => by simp at he, .nil, List.nodup_nil⟩, fun h' hd hs => ?_⟩
  have fx : ∀ b o, s₁.heap.get? b = some o → Fixed o → h'.get? b = some o := fun b o z f => hs.extBut b o (fun q => by
    subst q; rw [ho] at z; cases z
    rcases f with ⟨_, a, n, y⟩ | ⟨a, y⟩ <;> cases y) z
  obtain ⟨S', T'⟩ := S.track (tk := s₁.toks + vs.length) S₁ T₁ hs nd (SameOff.setD (x := putAll ks)) (fun o z f => by
    rw [ho] at z; cases z
    rcases f with ⟨_, a, n, y⟩ | ⟨a, y⟩ <;> cases y) (AtD.idictNew nd hd ((KVs.merged (acc := []) (acc' := []) (show KVs s₁.heap [] [] from rfl) hkv).move fx))
  exact q _ (.ref _) _ _ (k _ nd) S' T' VR.ofRef
end
end Mine
namespace Mine
noncomputable def MHeap.setE (σ : MHeap) (d : Addr) (o : Option Nat) : MHeap := { σ with E := fun b => if b = d then o else σ.E b }
section
variable {X : Fx} {m : Loc} {σ : MHeap}
theorem setE_self {d : Addr} {o : Option Nat} : (σ.setE d o).E d = o := if_pos rfl
theorem setE_same {d : Addr} {o : Option Nat} (h : σ.E d = o) : σ.setE d o = σ := by
  unfold MHeap.setE
  cases σ
  congr 1
  funext b
  by_cases e : b = d
  · subst e; rw [if_pos rfl]; exact h.symm
  · rw [if_neg e]
theorem SmF.setE {s : Shared} {d : Addr} {o : Option Nat} (S : SmF X m σ s) (h : ∀ ep, o = some ep → σ.Dom d ∧ ∃ ob es, s.heap.get? d = some ob ∧ ob.data = .dict es ep) : SmF X m (σ.setE d o) s :=
  { base := S.base, sep := S.sep, objs := ⟨S.objs.I, S.objs.L, S.objs.D, S.objs.S, S.objs.X, fun a ep z => by
      have z : (if a = d then o else σ.E a) = some ep := z
      by_cases e : a = d
      · subst e; rw [if_pos rfl] at z; exact h ep z
      · rw [if_neg e] at z; exact S.objs.E a ep z⟩, funf := S.funf, frc := S.frc, gens := S.gens, os := S.os, hnd := S.hnd, ok := S.ok, frame := S.frame, sepo := S.sepo, ownc := S.ownc }
theorem Tr.setE {fs : List Env} {own : List Addr} {σ' : MHeap} {h h' : Heap} {d d' : Addr} {o o' : Option Nat} (T : Tr fs own (σ.setE d o) h σ' h') : Tr fs own σ h (σ'.setE d' o') h' := ⟨T.keep, T.slots, T.there, T.grow⟩
theorem know_E {α β : Type} {R : Heap → β → α → Prop} {pre : Heap → Prop} {t : Sem α} {K : β → Loc → MHeap → Prop} {KE : Value → Loc → MHeap → Prop} {d : Addr} {l : List (Int × MV)} (hd : σ.D d = some l)
    (h : ∀ ep, RunL X m (σ.setE d (some ep)) R pre t (fun b m' σ' => σ'.E d = some ep ∧ K b m' (σ'.setE d (σ.E d))) (fun x m' σ' => σ'.E d = some ep ∧ KE x m' (σ'.setE d (σ.E d)))) : RunL X m σ R pre t K KE := fun s S p Q E q e => by
  cases z : σ.E d with
  | some ep =>
    have hs := setE_same (σ := σ) z
    have h := h ep
    rw [hs, z] at h
    exact h s S p Q E (fun a b m' σ' s' k S' T r => q a b m' σ' s' (by have := k.2; rwa [setE_same k.1] at this) S' T r) (fun ev x m' σ' s' k S' T r => e ev x m' σ' s' (by have := k.2; rwa [setE_same k.1] at this) S' T r)
  | none =>
    obtain ⟨kvs, ⟨o, es, ep, ho, hc, hdd, _⟩, _⟩ := S.objs.D d l hd
    have h := h ep
    rw [z] at h
    have nn : ∀ ep, (none : Option Nat) = some ep → False := fun _ y => by cases y
    exact h s (S.setE fun ep' y => by cases y; exact ⟨domD hd, o, es, ho, hdd⟩) p Q E
      (fun a b m' σ' s' k S' T r => q a b m' _ s' k.2 (S'.setE fun ep y => (nn ep y).elim) T.setE r)
      (fun ev x m' σ' s' k S' T r => e ev x m' _ s' k.2 (S'.setE fun ep y => (nn ep y).elim) T.setE r)
end
end Mine
namespace Mine
section
variable {X : Fx} {m : Loc} {σ : MHeap} {KE : Value → MHeap → Prop}
theorem bits_small {a : Int} (h1 : -1000000000000 ≤ a) (h2 : a ≤ 1000000000000) : Builtin.Int.intBits a ≤ 64 := by
  unfold Builtin.Int.intBits
  split
  · omega
  · rename_i h
    have h0 : a ≠ 0 := by simpa using h
    have h3 : a.natAbs ≠ 0 := by omega
    have : a.natAbs.log2 < 63 := (Nat.log2_lt h3).mpr (by have : (2:Nat) ^ 63 = 9223372036854775808 := by decide
                                                          omega)
    omega
theorem o_mulR {a b : Int} {K} (h1 : -1000000000000 ≤ b) (h2 : b ≤ 1000000000000) (h : K (.int (a * b)) σ) : Op2 X m σ VR (binaryOp .Mult) (.int a) (.int b) K KE := o_mul (.of_right (bits_small h1 h2)) h
theorem o_mulL {a b : Int} {K} (h1 : -1000000000000 ≤ a) (h2 : a ≤ 1000000000000) (h : K (.int (a * b)) σ) : Op2 X m σ VR (binaryOp .Mult) (.int a) (.int b) K KE := o_mul (.of_left (bits_small h1 h2)) h
theorem SmF.forget {m₁ : Loc} {s : Shared} (S : SmF X m σ s) (h : m₁ <:+ m) : SmF X m₁ σ s :=
  have sub : ∀ p ∈ m₁, p ∈ m := fun p hp => h.subset hp
  { toSm := S.toSm, ok := S.ok, frame := ⟨let ⟨f, n, k⟩ := S.frame.ns; ⟨f, n, fun x v a => k x v (sub _ a)⟩, fun x v a => S.frame.cells x v (sub _ a), S.frame.laid, fun x v a => S.frame.only x v (sub _ a), (h.sublist.map _).nodup S.frame.nd⟩, sepo := S.sepo, ownc := S.ownc }
theorem RunL.forget {α β : Type} {R : Heap → β → α → Prop} {pre : Heap → Prop} {t : Sem α} {K : β → Loc → MHeap → Prop} {KE : Value → Loc → MHeap → Prop} {m₁ : Loc} (hs : m₁ <:+ m) (h : RunL X m₁ σ R pre t K KE) : RunL X m σ R pre t K KE :=
  fun s S p Q E q e => h s (S.forget hs) p Q E q e
structure SD (σ σ' : MHeap) (c : Addr) (l : List (Int × MV)) : Prop where
  at_ : σ'.D c = some l
  off : SameOff c σ σ'
theorem SD.put {σ' : MHeap} {c : Addr} {l l' : List (Int × MV)} (h : SD σ σ' c l) : SD σ (σ'.setD c l') c l' := ⟨up_self _ _ _, fun a n => by
  have a1 := h.off a n
  have a2 := (SameOff.setD (σ := σ') (d := c) (x := l')) a n
  exact ⟨a2.1.trans a1.1, a2.2.1.trans a1.2.1, a2.2.2.1.trans a1.2.2.1, a2.2.2.2.1.trans a1.2.2.2.1, a2.2.2.2.2.trans a1.2.2.2.2⟩⟩
theorem SD.start {c : Addr} {l : List (Int × MV)} : SD σ (σ.setD c l) c l := ⟨up_self _ _ _, SameOff.setD⟩
theorem AsT.forget {m₁ : Loc} {t : Expr} {v : MV} {K : Loc → MHeap → Prop} {KE : Value → Loc → MHeap → Prop} (hs : m₁ <:+ m) (h : AsT X m₁ σ t v K KE) : AsT X m σ t v K KE := fun u => RunL.forget hs (h u)
end
end Mine
namespace Mine
section
variable {X : Fx} {m : Loc} {σ : MHeap}
theorem SmF.turn {s : Shared} {h' : Heap} {tk : Nat} (S : SmF X m σ s) (a : Addr) (g : X.C.g.get? a = none) (nd : ¬ σ.Dom a) (no : a ∉ X.own) (nf : a ∉ frs X.fs) (nt : ∀ o, s.heap.get? a = some o → ¬ FixT o)
    (hh : ∀ v, X.hd = some v → ∃ e l, v = .ref e ∧ Chain h' e l) (k : ∀ b o, b ≠ a → s.heap.get? b = some o → h'.get? b = some o) : SmF X m σ { s with heap := h', toks := tk } := by
  have tt : ∀ b o, s.heap.get? b = some o → FixT o → h'.get? b = some o := fun b o e f => k b o (fun q => nt o (q ▸ e) f) e
  have dm : ∀ b o, σ.Dom b → s.heap.get? b = some o → h'.get? b = some o := fun b o d e => k b o (fun q => nd (q ▸ d)) e
  have ow : ∀ b ∈ X.own, ∀ o, s.heap.get? b = some o → h'.get? b = some o := fun b hb o e => k b o (fun q => no (q ▸ hb)) e
  have fr : ∀ b ∈ frs X.fs, ∀ o, s.heap.get? b = some o → h'.get? b = some o := fun b hb o e => k b o (fun q => nf (q ▸ hb)) e
  have O := S.objs
  have obj : Objs X.C σ h' := by
    refine ⟨fun a c x e => ?_, fun a l e => ?_, fun a l e => ?_, fun a l e => ?_, O.X, fun a ep e => ?_⟩
    · exact dm a _ (domI e) (O.I a c x e)
    · obtain ⟨vs, n, g, r⟩ := O.L a l e
      exact ⟨vs, n, dm a _ (domL e) g, r.moveT tt⟩
    · obtain ⟨kvs, ⟨o, es, ep, ho, r⟩, g⟩ := O.D a l e
      exact ⟨kvs, ⟨o, es, ep, dm a _ (domD e) ho, r⟩, g.moveT tt⟩
    · obtain ⟨kvs, ⟨o, es, ep, ho, r⟩, g⟩ := O.S a l e
      exact ⟨kvs, ⟨o, es, ep, dm a _ (domS e) ho, r⟩, g.moveT tt⟩
    · obtain ⟨d, o, es, ho, hd⟩ := O.E a ep e
      exact ⟨d, o, es, dm a _ d ho, hd⟩
  refine { base := fun b o e => k b o (fun q => by rw [q, g] at e; cases e) (S.base b o e), sep := S.sep, objs := obj, funf := funFrames_re S.funf fun b hb => ?_, frc := fun b hb => ?_, gens := S.gens, os := S.os, hnd := hh, ok := S.ok, frame := ?_, sepo := S.sepo, ownc := fun b hb => ?_ }
  · obtain ⟨_, o, e, n⟩ := S.frc b hb
    exact ⟨o, fr b hb o e, n⟩
  · obtain ⟨d, o, e, n⟩ := S.frc b hb
    exact ⟨d, o, fr b hb o e, n⟩
  · obtain ⟨⟨f, n, kk⟩, c, l, o, ndp⟩ := S.frame
    refine ⟨⟨f, Ns.slots n fun o e => ⟨o.slots, ow _ (.head _) o e⟩, fun x v a b => ?_⟩, fun x v a b => ?_, fun x a => ?_, o, ndp⟩
    · obtain ⟨v', h1, h2⟩ := kk x v a b; exact ⟨v', h1, h2.moveT tt⟩
    · obtain ⟨cc, v', h1, h2, h3⟩ := c x v a b
      exact ⟨cc, v', h1, IsCell.slots h2 fun o e => ⟨o.slots, ow _ (.tail _ (lookup_cells h1)) o e⟩, h3.moveT tt⟩
    · obtain ⟨cc, v', h1, h2⟩ := l x a
      exact ⟨cc, v', h1, IsCell.slots h2 fun o e => ⟨o.slots, ow _ (.tail _ (lookup_cells h1)) o e⟩⟩
  · obtain ⟨o, e, n⟩ := S.ownc b hb
    exact ⟨o, ow b hb o e, n⟩
theorem Tr.turn {fs : List Env} {own : List Addr} {σ' : MHeap} {h₀ h₁ h₂ : Heap} {a : Addr} (T : Tr fs own σ h₀ σ' h₁) (ha : h₀.get? a = none) (k : ∀ b o, b ≠ a → h₁.get? b = some o → h₂.get? b = some o) : Tr fs own σ h₀ σ' h₂ := by
  have ne : ∀ b o, h₀.get? b = some o → b ≠ a := fun b o e q => by rw [q, ha] at e; cases e
  refine ⟨fun b o e n w f => k b o (ne b o e) (T.keep b o e n w f), fun b o e n w => ?_, fun b o e => ?_, T.grow⟩
  · obtain ⟨sl, e'⟩ := T.slots b o e n w
    exact ⟨sl, k b _ (ne b o e) e'⟩
  · obtain ⟨o', e'⟩ := T.there b o e
    exact ⟨o', k b _ (ne b o e) e'⟩
theorem item_list {I a : Addr} {l : List MV} {i : Nat} {v : MV} (hl : σ.L a = some l) (hv : l[i]? = some v) : ItemOk X I (fun i h => h.IsListIter I a i) i m σ v := fun s S st Q E k => by
  obtain ⟨vs', n', ho', r', il', ty', hn'⟩ := S.list hl
  obtain ⟨u, hu, ru⟩ := r'.get hv
  exact wpAny_pyNext_list_item st il' (by rw [← Array.getElem?_toList]; exact hu) fun h' st' hs' => k u h' s.toks ru st' hs'
theorem done_list {I a : Addr} {l : List MV} {i : Nat} (hh : X.A.handled = none) (hl : σ.L a = some l) (hv : l[i]? = none) : DoneOk X I (fun i h => h.IsListIter I a i) i m σ := fun s S st Q E k => by
  obtain ⟨vs', n', ho', r', il', ty', hn'⟩ := S.list hl
  refine wpAny_pyNext_list_end hh st il' ?_ fun h' hs' => k h' s.toks hs'
  rw [← Array.getElem?_toList, List.getElem?_eq_none]
  rw [r'.length]; exact List.getElem?_eq_none_iff.mp hv
theorem item_dict {I d : Addr} {l : List (Int × MV)} {i N ep : Nat} {k : Int} {v : MV} (hN : l.length = N) (hl : σ.D d = some l) (he : σ.E d = some ep) (hv : l[i]? = some (k, v)) : ItemOk X I (fun i h => h.IsKeyIter I d i N ep) i m σ (.int k) := fun s S st Q E kk => by
  obtain ⟨kvs', D', r'⟩ := S.dictAt hl he
  obtain ⟨u, hu⟩ := (r'.get i).1 k v hv
  have hn' : kvs'.length = N := by rw [r'.length, hN]
  rw [← hn'] at st
  refine wpAny_pyNext_dict_item st D' hu fun key h' hk st' hs' => kk key h' s.toks ?_ (by rw [hn'] at st'; exact st') hs'
  obtain ⟨t, rfl⟩ := Value.isInt_shape hk
  exact VR.ofInt
theorem done_dict {I d : Addr} {l : List (Int × MV)} {N ep : Nat} (hh : X.A.handled = none) (hN : l.length = N) (hl : σ.D d = some l) (he : σ.E d = some ep) : DoneOk X I (fun i h => h.IsKeyIter I d i N ep) N m σ := fun s S st Q E kk => by
  obtain ⟨kvs', D', r'⟩ := S.dictAt hl he
  have hn' : kvs'.length = N := by rw [r'.length, hN]
  rw [← hn'] at st
  exact wpAny_pyNext_dict_end hh (i := kvs'.length) st D' (by simp) fun h' hs' => kk h' s.toks hs'
noncomputable abbrev Fx.comp (X : Fx) (scope : Scope) (cl : List (Str × Addr)) (C : Addr) : Fx := { X with env := compEnvC scope cl C X.env }
structure CompOk (X : Fx) (m : Loc) (scope : Scope) (cl : List (Str × Addr)) (x : Str) (mc : Loc) : Prop where
  clos : closureFor scope X.env = pure cl
  cell : ∀ y ∈ scope.names, y.2 ≠ .cell
  kind : scope.kind = .function
  names : ∀ y ∈ scope.names, y.2 = .local → scope.names.lookup y.1 = some .local
  hx : scope.names.lookup x = some .local
  okx : okName x = true
  nd : (cl.map (·.2)).Nodup
  sub : ∀ c ∈ cl.map (·.2), c ∈ X.env.cells.map (·.2)
  fv : ∀ y v, (y, v) ∈ mc → y ≠ x ∧ (y, v) ∈ m ∧ okName y = true ∧ ((compEnvC scope cl 0 X.env).kindOf y = some .cell ∨ (compEnvC scope cl 0 X.env).kindOf y = some .free) ∧ (X.env.kindOf y = some .cell ∨ X.env.kindOf y = some .free) ∧ cl.lookup y = X.env.cells.lookup y
  mcnd : (mc.map (·.1)).Nodup
  laid : ∀ y, (compEnvC scope cl 0 X.env).kindOf y = some .cell → ∃ c, cl.lookup y = some c ∧ X.env.cells.lookup y = some c ∧ X.env.kindOf y = some .cell
theorem comp_kind {scope : Scope} {cl : List (Str × Addr)} {C : Addr} {env : Env} {y : Str} : (compEnvC scope cl C env).kindOf y = (compEnvC scope cl 0 env).kindOf y := rfl
noncomputable abbrev EvIfs (X : Fx) (m : Loc) (σ : MHeap) (ifs : List Expr) (K : Bool → MHeap → Prop) (KE : Value → MHeap → Prop) : Prop :=
  RunE X m σ BR (fun _ => True) (forIn ifs true fun c r => if r = true then do let ok ← isTrue c X.env (eval c X.env); pure (ForInStep.yield ok) else pure (ForInStep.yield r)) K KE
theorem ei_one {c : Expr} {K KE} (h : EvT X m σ c K KE) : EvIfs X m σ [c] K KE := fun s S _ Q E q e => by
  rw [List.forIn_cons]
  refine wpAny_bind ?_
  rw [if_pos rfl]
  refine wpAny_bind (h s S trivial _ E (fun a b σ' s' k S' T r => wpAny_pure ?_) e)
  show wpAny _ _ (forIn [] a _) _ _ _
  rw [List.forIn_nil]
  exact wpAny_pure (q a b σ' s' k S' T r)
noncomputable def Starts (X : Fx) (m : Loc) (σ : MHeap) (mv : MV) (St : Addr → Nat → Heap → Prop) : Prop :=
  ∀ s, SmF X m σ s → ∀ v, VR s.heap mv v → ∀ (Q : Value → Shared → Prop) (E : Value → Shared → Prop), (∀ o, o.isFreed = false → St s.heap.objs.size 0 (s.heap.push o) → Q (.ref s.heap.objs.size) { s with heap := s.heap.push o }) → wpAny X.C.M X.A (pyIter v) Q E s
theorem starts_list {a : Addr} {l : List MV} (hl : σ.L a = some l) : Starts X m σ (.ref a) (fun I i h => h.IsListIter I a i) := fun s S v r Q E q => by
  obtain rfl := VR.ref r
  obtain ⟨vs, n, ho, r, il, ty, _⟩ := S.list hl
  exact wpAny_pyIter_list il (q _ rfl ⟨_, Heap.get?_push_size _ rfl, rfl, rfl⟩)
theorem starts_dict {d : Addr} {l : List (Int × MV)} {N ep : Nat} (hl : σ.D d = some l) (he : σ.E d = some ep) (hN : l.length = N) : Starts X m σ (.ref d) (fun I i h => h.IsKeyIter I d i N ep) := fun s S v r Q E q => by
  obtain rfl := VR.ref r
  obtain ⟨kvs, D, r⟩ := S.dictAt hl he
  have hkn : kvs.length = N := by rw [r.length, hN]
  exact wpAny_pyIter_dict (S.notSys (domD hl)) D (q _ rfl ⟨_, Heap.get?_push_size _ rfl, rfl, by rw [hkn]; rfl⟩)
theorem AtD.listNew {C : Cx} {h' : Heap} {a : Addr} {l : List MV} {vs : Array Value} {n : Nat} (nd : ¬ σ.Dom a) (e : h'.get? a = some (listOf vs n)) (r : VRs h' l vs.toList) : AtD C (σ.setL a l) h' a := by
  obtain ⟨q1, q2, q3, q4⟩ := nodom nd
  refine ⟨fun c d z => ?_, fun l' z => ?_, fun l' z => ?_, fun l' z => ?_, .inl q3, fun ep z => by have z : MHeap.clr _ _ _ = _ := z; unfold MHeap.clr at z; rw [if_pos rfl] at z; cases z⟩
  · have : σ.I a = some (c, d) := z; rw [q1] at this; cases this
  · have : MHeap.up σ.L a l a = some l' := z
    rw [up_self] at this; cases this; exact ⟨vs, n, e, r⟩
  · have : σ.D a = some l' := z; rw [q3] at this; cases this
  · have : σ.S a = some l' := z; rw [q4] at this; cases this
noncomputable def SelfOk (X : Fx) (I : Addr) (St : Nat → Heap → Prop) : Prop := ∀ i s (Q : Value → Shared → Prop) (E : Value → Shared → Prop), St i s.heap → Q (.ref I) s → wpAny X.C.M X.A (pyIter (.ref I)) Q E s
theorem self_list {I a : Addr} : SelfOk X I (fun i h => h.IsListIter I a i) := fun i s Q E st q => wpAny_pyIter_listiter st q
theorem self_dict {I d : Addr} {N ep : Nat} : SelfOk X I (fun i h => h.IsKeyIter I d i N ep) := fun i s Q E st q => wpAny_pyIter_keyiter st q
theorem Objs.turn {C : Cx} {h h' : Heap} {a : Addr} (O : Objs C σ h) (nd : ¬ σ.Dom a) (nt : ∀ o, h.get? a = some o → ¬ FixT o) (k : ∀ b o, b ≠ a → h.get? b = some o → h'.get? b = some o) : Objs C σ h' := by
  have tt : ∀ b o, h.get? b = some o → FixT o → h'.get? b = some o := fun b o e f => k b o (fun q => nt o (q ▸ e) f) e
  have dm : ∀ b o, σ.Dom b → h.get? b = some o → h'.get? b = some o := fun b o d e => k b o (fun q => nd (q ▸ d)) e
  refine ⟨fun a c x e => ?_, fun a l e => ?_, fun a l e => ?_, fun a l e => ?_, O.X, fun a ep e => ?_⟩
  · exact dm a _ (domI e) (O.I a c x e)
  · obtain ⟨vs, n, g, r⟩ := O.L a l e
    exact ⟨vs, n, dm a _ (domL e) g, r.moveT tt⟩
  · obtain ⟨kvs, ⟨o, es, ep, ho, r⟩, g⟩ := O.D a l e
    exact ⟨kvs, ⟨o, es, ep, dm a _ (domD e) ho, r⟩, g.moveT tt⟩
  · obtain ⟨kvs, ⟨o, es, ep, ho, r⟩, g⟩ := O.S a l e
    exact ⟨kvs, ⟨o, es, ep, dm a _ (domS e) ho, r⟩, g.moveT tt⟩
  · obtain ⟨d, o, es, ho, hd⟩ := O.E a ep e
    exact ⟨d, o, es, dm a _ d ho, hd⟩
theorem notFixT_fields {o : Obj} {vs : Array Value} (h : o.data = .fields vs) : ¬ FixT o := by
  rintro ⟨_, a, n, z⟩; rw [h] at z; cases z
theorem notFixT_list {vs : Array Value} {n : Nat} : ¬ FixT (listOf vs n) := by
  rintro ⟨z, _⟩; simp at z
theorem ev_comp {elt iter : Expr} {x : Str} {px pos : Pos} {ifs : List Expr} {scope : Scope} {cl : List (Str × Addr)} {mc : Loc} {K : MV → MHeap → Prop} {KE : Value → MHeap → Prop} (C0 : CompOk X m scope cl x mc) (hs : ∀ x, foldedSetIterable iter X.env x = pure x) (N : Nat) (hN : N ≤ 100000)
    (h : EvE X m σ iter (fun mv σ₁ => ∃ (St : Addr → Nat → Heap → Prop) (J : Nat → List MV → MHeap → Prop), Starts X m σ₁ mv St ∧ (∀ I, IterOk I (St I)) ∧ (∀ I, SelfOk X I (St I)) ∧ J 0 [] σ₁ ∧ (∀ i acc σ', J i acc σ' → i ≤ N ∧ acc.length ≤ i) ∧
      ∀ i acc σ', J i acc σ' →
        (∃ v, (∀ C I, ItemOk (X.comp scope cl C) I (St I) i mc σ' v) ∧ ∀ C, EvIfs (X.comp scope cl C) ((x, v) :: mc) σ' ifs (fun b σ₂ => if b = true then EvE (X.comp scope cl C) ((x, v) :: mc) σ₂ elt (fun y σ₃ => J (i + 1) (acc ++ [y]) σ₃) (fun _ _ => False) else J (i + 1) acc σ₂) (fun _ _ => False)) ∨
        ((∀ C I, DoneOk (X.comp scope cl C) I (St I) i mc σ') ∧ ∀ D, ¬ σ'.Dom D → K (.ref D) (σ'.setL D acc))) KE) :
    EvE X m σ (.ListComp elt [⟨.Name x px, iter, ifs, 0⟩] scope pos) K KE := fun s S _ Q E q e => by
  rw [eval_ListComp]
  refine wpAny_comprehension_free (use := none) rfl hs C0.clos C0.kind C0.names (h s S trivial _ E (fun v mv σ₁ s₁ h₁ S₁ T₁ r₁ => ?_) e)
  obtain ⟨St, J, hst, hI, hself, hJ0, hJN, turn⟩ := h₁
  refine hst s₁ S₁ v r₁ _ _ fun oI hfI hstI => ?_
  obtain ⟨S₂, T₂⟩ := S₁.push (o := oI) (tk := s₁.toks) hfI SameOff.refl (AtD.none S₁.objs S₁.fresh.1)
  have hI1 : s₁.heap.get? s₁.heap.objs.size = none := S₁.fresh.1
  refine wpAny_newObj_type (wpAny_newFunctionEnv C0.cell (by intro y hy; simp at hy) (fun h₁ hns₁ hsb₁ => ?_) C0.kind)
  dsimp only at hns₁ hsb₁ ⊢
  generalize hH1 : s₁.heap.push oI = H1 at *
  generalize hH2 : H1.push { cls := .type "list", dict := none, data := .seq ([] : List Value).toArray } = H2 at *
  have z1 : H1.objs.size = s₁.heap.objs.size + 1 := by rw [← hH1, Heap.size_push]
  have z2 : H2.objs.size = H1.objs.size + 1 := by rw [← hH2, Heap.size_push]
  have k1 : ∀ b o, s₁.heap.get? b = some o → H1.get? b = some o := fun b o z => hH1 ▸ Heap.get?_push_of_some _ z
  have k2 : ∀ b o, H1.get? b = some o → H2.get? b = some o := fun b o z => hH2 ▸ Heap.get?_push_of_some _ z
  have k3 : ∀ b o, H2.get? b = some o → h₁.get? b = some o := fun b o z => hsb₁.extBut b o (Nat.ne_of_lt (Heap.lt_size z)) (Heap.get?_push_of_some _ z)
  have hD2 : H2.get? H1.objs.size = some (listOf #[] 0) := hH2 ▸ Heap.get?_push_size _ rfl
  have no : ∀ a, s₁.heap.objs.size ≤ a → s.heap.get? a = none := fun a ha => by
    cases z : s.heap.get? a with
    | none => rfl
    | some o => obtain ⟨o', y⟩ := T₁.there a o z; exact absurd (Heap.lt_size y) (Nat.not_lt.mpr ha)
  have nI := no s₁.heap.objs.size (Nat.le_refl _)
  have nD := no H1.objs.size (by rw [z1]; exact Nat.le_succ _)
  have nC := no H2.objs.size (by rw [z2, z1]; exact Nat.le_succ_of_le (Nat.le_succ _))
  have gn : ∀ a, s.heap.get? a = none → X.C.g.get? a = none := fun a ha => by
    cases z : X.C.g.get? a with
    | none => rfl
    | some o => have := S.base a o z; rw [ha] at this; cases this
  have nown : ∀ a, s.heap.get? a = none → a ∉ X.own := fun a ha q => by obtain ⟨o, z, _⟩ := S.ownc a q; rw [ha] at z; cases z
  have nfrs : ∀ a, s.heap.get? a = none → a ∉ frs X.fs := fun a ha q => by obtain ⟨_, o, z, _⟩ := S.frc a q; rw [ha] at z; cases z
  have ncl : ∀ a, s.heap.get? a = none → a ∉ cl.map (·.2) := fun a ha q => nown a ha (.tail _ (C0.sub a q))
  have dIC : s₁.heap.objs.size ≠ H2.objs.size := by rw [z2, z1]; exact Nat.ne_of_lt (Nat.lt_succ_of_lt (Nat.lt_succ_self _))
  have dID : s₁.heap.objs.size ≠ H1.objs.size := by rw [z1]; exact Nat.ne_of_lt (Nat.lt_succ_self _)
  have dDC : H1.objs.size ≠ H2.objs.size := by rw [z2]; exact Nat.ne_of_lt (Nat.lt_succ_self _)
  have yI : s₁.heap.objs.size ∉ (X.comp scope cl H2.objs.size).own := fun q => by
    rcases List.mem_cons.mp q with q | q
    · exact dIC q
    · exact ncl _ nI q
  have yD : H1.objs.size ∉ (X.comp scope cl H2.objs.size).own := fun q => by
    rcases List.mem_cons.mp q with q | q
    · exact dDC q
    · exact ncl _ nD q
  have nd1 : ∀ a, s₁.heap.objs.size ≤ a → ¬ σ₁.Dom a := fun a ha d => by obtain ⟨o, z⟩ := S₁.objs.there d; exact absurd (Heap.lt_size z) (Nat.not_lt.mpr ha)
  have ndI := nd1 s₁.heap.objs.size (Nat.le_refl _)
  have ndD := nd1 H1.objs.size (by rw [z1]; exact Nat.le_succ _)
  have ndC := nd1 H2.objs.size (by rw [z2, z1]; exact Nat.le_succ_of_le (Nat.le_succ _))
  have kk : ∀ b o, s₁.heap.get? b = some o → h₁.get? b = some o := fun b o z => k3 b o (k2 b o (k1 b o z))
  have T0 : Tr X.fs [] σ s.heap σ₁ h₁ := T₁.trans ⟨fun b o z _ _ _ => kk b o z, fun b o z _ _ => ⟨o.slots, kk b o z⟩, fun b o z => ⟨o, kk b o z⟩, fun b d => .inl d⟩
  have hhd : ∀ {σ' h'}, Tr X.fs [] σ s.heap σ' h' → ∀ v, X.hd = some v → ∃ e l, v = .ref e ∧ Chain h' e l := fun T v hv => by
    obtain ⟨e, l, q, c⟩ := S.hnd v hv
    exact ⟨e, l, q, c.move (T.fixed S.toSm OwnOk.nil)⟩
  have S0 : SmF (X.comp scope cl H2.objs.size) mc σ₁ { s₁ with heap := h₁, toks := s₁.toks + ([] : List (Str × Value)).length } := by
    have fm : ∀ b o, s₁.heap.get? b = some o → Fixed o → h₁.get? b = some o := fun b o z _ => kk b o z
    refine { base := fun b o z => kk b o (S₁.base b o z), sep := S₁.sep, objs := S₁.objs.keep kk, funf := funFrames_re S₁.funf fun b hb => ?_, frc := fun b hb => ?_, gens := S₁.gens, os := S₁.os, hnd := hhd T0, ok := ?_, frame := ?_, sepo := fun b hb => ?_, ownc := fun b hb => ?_ }
    · obtain ⟨_, o, z, n⟩ := S₁.frc b hb
      exact ⟨o, kk b o z, n⟩
    · obtain ⟨d, o, z, n⟩ := S₁.frc b hb
      exact ⟨d, o, kk b o z, n⟩
    · obtain ⟨e', l', a1, a2, a3⟩ := S₁.ok.top
      exact ⟨S₁.ok.frames, ⟨e', l', a1, a2, a3⟩, C0.kind, S₁.ok.gl, S₁.ok.bl, S₁.ok.nb, C0.nd, ncl _ nC⟩
    · refine ⟨⟨_, hns₁, fun y v hy hk => ?_⟩, fun y v hy hk => ?_, fun y hk => ?_, fun y v hy => ?_, C0.mcnd⟩
      · obtain ⟨_, _, _, h4, _⟩ := C0.fv y v hy
        rw [comp_kind] at hk
        rw [hk] at h4
        rcases h4 with z | z <;> cases z
      · obtain ⟨_, h2, _, _, h5, h6⟩ := C0.fv y v hy
        obtain ⟨c, w, a1, a2, a3⟩ := S₁.frame.cells y v h2 h5
        exact ⟨c, w, h6.trans a1, by obtain ⟨o, ho, hd⟩ := a2; exact ⟨o, kk _ _ ho, hd⟩, a3.move fm⟩
      · obtain ⟨c, a1, a2, a3⟩ := C0.laid y hk
        obtain ⟨c', v₀, b1, o, ho, hd⟩ := S₁.frame.laid y a3
        rw [a2] at b1; cases b1
        exact ⟨c, v₀, a1, o, kk _ _ ho, hd⟩
      · obtain ⟨_, _, h3, h4, _⟩ := C0.fv y v hy
        exact ⟨h3, .inr h4⟩
    · rcases List.mem_cons.mp hb with q | q
      · subst q; exact ⟨gn _ nC, ndC⟩
      · exact S₁.sepo b (.tail _ (C0.sub b q))
    · rcases List.mem_cons.mp hb with q | q
      · subst q
        obtain ⟨o, es, ep, ho, hd, _⟩ := hns₁
        refine ⟨o, ho, ?_⟩
        rintro (⟨_, a, n, z⟩ | ⟨a, z⟩) <;> rw [hd] at z <;> cases z
      · obtain ⟨o, z, n⟩ := S₁.ownc b (.tail _ (C0.sub b q))
        exact ⟨o, kk b o z, n⟩
  have hI0 : ∀ o, H1.get? s₁.heap.objs.size = some o → h₁.get? s₁.heap.objs.size = some o := fun o z => k3 _ _ (k2 _ _ z)
  have st0 := (hI _).keep 0 _ h₁ hstI hI0
  have loop : codeAny X.C.M X.A (.compLoop (.ListComp elt [⟨.Name x px, iter, ifs, 0⟩] scope pos) 0 (.ref s₁.heap.objs.size) (.ref H1.objs.size) (compEnvC scope cl H2.objs.size X.env)) (compPost X.C.M X.A E none Q (.ref H1.objs.size) H2.objs.size) { s₁ with heap := h₁, toks := s₁.toks + ([] : List (Str × Value)).length } := by
    refine codeAny_compLoop_tests (fun n s' => ∃ i acc σ', n = N + 1 - i ∧ J i acc σ' ∧ SmF (X.comp scope cl H2.objs.size) mc σ' s' ∧ Tr X.fs [] σ s.heap σ' s'.heap ∧ St s₁.heap.objs.size i s'.heap ∧
      (∃ vs k, s'.heap.get? H1.objs.size = some (listOf vs k) ∧ VRs s'.heap acc vs.toList) ∧ ¬ σ'.Dom H1.objs.size ∧ ¬ σ'.Dom s₁.heap.objs.size) ?_ (N + 1)
      ⟨0, [], σ₁, rfl, hJ0, S0, T0, st0, ⟨#[], 0, k3 _ _ hD2, VRs.nil⟩, ndD, ndI⟩
    rintro n s' ⟨i, acc, σ', rfl, hJ, S', T', st, ⟨vs, k, hD, hr⟩, nD', nI'⟩
    obtain ⟨oI', vI, tI, hoI, hdI, hcI, _⟩ := (hI _).is i _ st
    rcases turn i acc σ' hJ with ⟨w, hit, hifs⟩ | ⟨hdn, hK⟩
    · refine hit H2.objs.size _ s' S' st _ _ fun u h1 tk hv st1 hs1 => ?_
      have e1 : ∀ b o, b ≠ s₁.heap.objs.size → s'.heap.get? b = some o → h1.get? b = some o := fun b o ne z => hs1.extBut b o ne z
      have T1 := T'.turn nI e1
      have S1 := S'.turn (tk := tk) s₁.heap.objs.size (gn _ nI) nI' yI (nfrs _ nI) (fun o z => by rw [hoI] at z; cases z; exact notFixT_fields hdI) (hhd T1) e1
      have hv1 : VR h1 w u := hv.moveT fun b o z f => e1 b o (fun q => by subst q; rw [hoI] at z; cases z; exact notFixT_fields hdI f) z
      have hD1 := e1 _ _ (Ne.symm dID) hD
      have hr1 : VRs h1 acc vs.toList := hr.moveT fun b o z f => e1 b o (fun q => by subst q; rw [hoI] at z; cases z; exact notFixT_fields hdI f) z
      have any : (mc.any fun p => p.1 == x) = false := by
        rw [List.any_eq_false]
        intro p hp
        have := (C0.fv p.1 p.2 hp).1
        simpa using this
      refine wpAny_assign_Name (st_local (X := X.comp scope cl H2.objs.size) S1 (lookup_relabel_local C0.hx) C0.okx (.new any) hv1 fun s2 S2 _ hs2 => ?_)
      have e2 : ∀ b o, b ≠ H2.objs.size → h1.get? b = some o → s2.heap.get? b = some o := fun b o ne z => hs2.extBut b o ne z
      have T2 := T1.turn nC e2
      have st2 := (hI _).keep _ _ s2.heap st1 fun o z => e2 _ o dIC z
      obtain ⟨oC, hoC, hnC⟩ := S1.ownc H2.objs.size (.head _)
      have hD2' := e2 _ _ dDC hD1
      have hr2 : VRs s2.heap acc vs.toList := hr1.moveT fun b o z f => e2 b o (fun q => by subst q; rw [hoC] at z; cases z; exact hnC (.inl f)) z
      refine hifs H2.objs.size s2 S2 trivial _ _ (fun ok okm σ2 s3 k3' S3 T3 r3 => ?_) (fun ev x σ s k => k.elim)
      have eo : ok = okm := r3
      subst eo
      have T3' := T2.trans T3
      have hD3 := T3.keep _ _ hD2' nD' (fun q => by cases q) (nfrs _ nD)
      obtain ⟨oI2, vI2, _, hoI2, hdI2, _⟩ := (hI _).is _ _ st2
      have hI3 := T3.keep _ _ hoI2 nI' (fun q => by cases q) (nfrs _ nI)
      have st3 := (hI _).keep _ _ s3.heap st2 fun o z => by rw [hoI2] at z; cases z; exact hI3
      have hr3 : VRs s3.heap acc vs.toList := hr2.move (S2.fx T3)
      have nD3 : ¬ σ2.Dom H1.objs.size := fun d => by
        rcases T3.grow _ d with q | q
        · exact nD' q
        · rw [hD2'] at q; cases q
      have nI3 : ¬ σ2.Dom s₁.heap.objs.size := fun d => by
        rcases T3.grow _ d with q | q
        · exact nI' q
        · rw [hoI2] at q; cases q
      have lt : ∀ {acc σ3}, J (i + 1) acc σ3 → N + 1 - (i + 1) < N + 1 - i := fun j => by have := (hJN _ _ _ j).1; omega
      cases ok with
      | false =>
        have k3' : J (i + 1) acc σ2 := k3'
        exact ⟨_, lt k3', i + 1, acc, σ2, rfl, k3', S3.forget (List.suffix_cons _ _), T3', st3, ⟨vs, k, hD3, hr3⟩, nD3, nI3⟩
      | true =>
        refine k3' s3 S3 trivial _ _ (fun y ym σ3 s4 k4 S4 T4 r4 => ?_) (fun ev x σ s k => k.elim)
        have k4 : J (i + 1) (acc ++ [ym]) σ3 := k4
        have T4' := T3'.trans T4
        have hD4 := T4.keep _ _ hD3 nD3 (fun q => by cases q) (nfrs _ nD)
        have hI4 := T4.keep _ _ hI3 nI3 (fun q => by cases q) (nfrs _ nI)
        have st4 := (hI _).keep _ _ s4.heap st3 fun o z => by rw [hI3] at z; cases z; exact hI4
        have hr4 : VRs s4.heap acc vs.toList := hr3.move (S3.fx T4)
        have nD4 : ¬ σ3.Dom H1.objs.size := fun d => by
          rcases T4.grow _ d with q | q
          · exact nD3 q
          · rw [hD3] at q; cases q
        have nI4 : ¬ σ3.Dom s₁.heap.objs.size := fun d => by
          rcases T4.grow _ d with q | q
          · exact nI3 q
          · rw [hI3] at q; cases q
        have hz : vs.size ≤ sizeLine := by
          have a1 := hr4.length
          have a2 := hJN _ _ _ k4
          simp at a1 a2
          rw [sizeLine_eq]
          omega
        refine wpAny_list_append_plain (hsz := hz) ⟨k, hD4⟩ fun h5 ⟨k5, hD5⟩ hs5 => ?_
        have e5 : ∀ b o, b ≠ H1.objs.size → s4.heap.get? b = some o → h5.get? b = some o := fun b o ne z => hs5.extBut b o ne z
        have T5 := T4'.turn nD e5
        have nf5 : ∀ b o, s4.heap.get? b = some o → FixT o → h5.get? b = some o := fun b o z f => e5 b o (fun q => by subst q; rw [hD4] at z; cases z; exact notFixT_list f) z
        have S5 := S4.turn (tk := s4.toks) H1.objs.size (gn _ nD) nD4 yD (nfrs _ nD) (fun o z => by rw [hD4] at z; cases z; exact notFixT_list) (hhd T5) e5
        exact ⟨_, lt k4, i + 1, acc ++ [ym], σ3, rfl, k4, S5.forget (List.suffix_cons _ _), T5, (hI _).keep _ _ _ st4 fun o z => e5 _ o dID z, ⟨vs.push y, k5, hD5, by
          rw [Array.toList_push]
          exact VRs.append (hr4.moveT nf5) (VRs.cons (r4.moveT nf5) VRs.nil)⟩, nD4, nI4⟩
    · refine hdn H2.objs.size _ s' S' st _ _ fun h1 tk hs1 => ?_
      have e1 : ∀ b o, b ≠ s₁.heap.objs.size → s'.heap.get? b = some o → h1.get? b = some o := fun b o ne z => hs1 b o ne z
      have nfI : ∀ o, s'.heap.get? s₁.heap.objs.size = some o → ¬ FixT o := fun o z => by rw [hoI] at z; cases z; exact notFixT_fields hdI
      have T1 := T'.turn nI e1
      have S1 := S'.turn (tk := tk) s₁.heap.objs.size (gn _ nI) nI' yI (nfrs _ nI) nfI (hhd T1) e1
      obtain ⟨f, hf, _⟩ := S1.frame.ns
      refine ⟨f, hf, fun h2 hs2 => ?_⟩
      have e2 : ∀ b o, b ≠ H2.objs.size → h1.get? b = some o → h2.get? b = some o := fun b o ne z => hs2.extBut b o ne z
      have T2 := T1.turn nC e2
      obtain ⟨oC, hoC, hnC⟩ := S1.ownc H2.objs.size (.head _)
      have nC' := (S1.sepo H2.objs.size (.head _)).2
      have O2 : Objs X.C σ' h2 := S1.objs.turn nC' (fun o z f => by have z : h1.get? _ = _ := z; rw [hoC] at z; cases z; exact hnC (.inl f)) e2
      have hD2' := e2 _ _ dDC (e1 _ _ (Ne.symm dID) hD)
      have hr2 : VRs h2 acc vs.toList := (hr.moveT fun b o z f => e1 b o (fun q => by subst q; exact nfI o z f) z).moveT fun b o z f => e2 b o (fun q => by subst q; rw [hoC] at z; cases z; exact hnC (.inl f)) z
      have O3 : Objs X.C (σ'.setL H1.objs.size acc) h2 := O2.upd (d := H1.objs.size) (fun b o _ z => z) (fun o z fx => by
        rw [hD2'] at z; cases z
        rcases fx with z | ⟨a, z⟩
        · exact notFixT_list z
        · cases z) SameOff.setL (AtD.listNew nD' hD2' hr2)
      have T3 : Tr X.fs [] σ s.heap (σ'.setL H1.objs.size acc) h2 := ⟨T2.keep, T2.slots, T2.there, fun b d => by
        by_cases z : b = H1.objs.size
        · subst z; exact .inr nD
        · exact T2.grow b (SameOff.setL.dom z d)⟩
      exact q _ (.ref _) _ { s' with heap := h2, toks := tk } (hK _ nD') (S.stepX T3 O3 S'.gens S'.os) T3 VR.ofRef
  exact codeAny_compStart_list loop (hself _ 0 _ _ _ st0 loop)
end
end Mine
namespace Mine
theorem bindL_other {kindOf : Str → Option NameKind} : ∀ {binds : List (Str × Value)} {f : Str → Option Value} {x : Str}, x ∉ binds.map (·.1) → bindL kindOf binds f x = f x
  | [], _, _, _ => rfl
  | (n, v) :: r, f, x, h => by
    simp only [List.map_cons, List.mem_cons, not_or] at h
    unfold bindL
    rw [bindL_other h.2]
    split
    · exact if_neg h.1
    · rfl
theorem bindC_other {kindOf : Str → Option NameKind} : ∀ {binds : List (Str × Value)} {f : Str → Option Value} {x : Str}, x ∉ binds.map (·.1) → bindC kindOf binds f x = f x
  | [], _, _, _ => rfl
  | (n, v) :: r, f, x, h => by
    simp only [List.map_cons, List.mem_cons, not_or] at h
    unfold bindC
    rw [bindC_other h.2]
    split
    · rfl
    · exact if_neg h.1
theorem bindL_of {kindOf : Str → Option NameKind} {x : Str} {v : Value} (hk : kindOf x = some .local) : ∀ {binds : List (Str × Value)} {f : Str → Option Value}, (binds.map (·.1)).Nodup → binds.lookup x = some v → bindL kindOf binds f x = some v
  | [], _, _, h => by cases h
  | (n, u) :: r, f, nd, h => by
    simp only [List.map_cons, List.nodup_cons] at nd
    rw [List.lookup_cons] at h
    unfold bindL
    by_cases e : x = n
    · subst e
      simp only [beq_self_eq_true, Option.some.injEq] at h
      subst h
      rw [bindL_other nd.1, if_pos hk, if_pos rfl]
    · rw [show (x == n) = false from by simpa using e] at h
      exact bindL_of hk nd.2 h
theorem bindC_of {kindOf : Str → Option NameKind} {x : Str} {v : Value} (hk : kindOf x = some .cell) : ∀ {binds : List (Str × Value)} {f : Str → Option Value}, (binds.map (·.1)).Nodup → binds.lookup x = some v → bindC kindOf binds f x = some v
  | [], _, _, h => by cases h
  | (n, u) :: r, f, nd, h => by
    simp only [List.map_cons, List.nodup_cons] at nd
    rw [List.lookup_cons] at h
    unfold bindC
    by_cases e : x = n
    · subst e
      simp only [beq_self_eq_true, Option.some.injEq] at h
      subst h
      rw [bindC_other nd.1, if_neg (by rw [hk]; nofun), if_pos rfl]
    · rw [show (x == n) = false from by simpa using e] at h
      exact bindC_of hk nd.2 h
theorem lookup_of_mem {l : List (Str × Addr)} (nd : (l.map (·.1)).Nodup) {n : Str} {c : Addr} (h : (n, c) ∈ l) : l.lookup n = some c := by
  induction l with
  | nil => cases h
  | cons p r ih =>
    obtain ⟨k, a⟩ := p
    simp only [List.map_cons, List.nodup_cons] at nd
    rw [List.lookup_cons]
    rcases List.mem_cons.mp h with e | e
    · cases e; simp
    · have : n ≠ k := fun q => nd.1 (q ▸ List.mem_map_of_mem (f := (·.1)) e)
      rw [show (n == k) = false from by simpa using this]
      exact ih nd.2 e
noncomputable def cellChk (fd : FuncData) (ps : List Str) (L : Addr) : Bool :=
  let cs := cellsFrom (L + 1) fd.scope.names []
  nodupB (cs.map (·.1)) && (fd.scope.names.all (fun p => !(p.2 == .cell) || (cs.lookup p.1).isSome) && (ps.all (fun x => (fd.scope.names.lookup x == some .local || (fd.scope.names.lookup x == some .cell && (cs.lookup x).isSome)) && okName x) && nodupB ps))
theorem lookup_mem' {l : List (Str × NameKind)} {x : Str} {k : NameKind} (h : l.lookup x = some k) : (x, k) ∈ l := by
  induction l with
  | nil => cases h
  | cons p r ih =>
    obtain ⟨n, k'⟩ := p
    rw [List.lookup_cons] at h
    by_cases e : x = n
    · subst e; simp at h; subst h; exact .head _
    · rw [show (x == n) = false from by simpa using e] at h
      exact .tail _ (ih h)
section
variable {X : Fx} {m : Loc} {σ : MHeap} {K : MV → MHeap → Prop} {KE : Value → MHeap → Prop}
theorem cv_cells {a : Addr} {fd : FuncData} {body : List Stmt} {vs : List MV} {m₀ : Loc} {ps : List Str} (F : FnOk X.C a fd body) (hroom : X.A.depth < recursionLimit) (hps : m₀.map (·.1) = ps) (hc : ∀ L, cellChk fd ps L = true)
    (hb : ∀ vals h, VRs h vs vals → ∃ binds, bindArgs fd ⟨vals, []⟩ = pure binds ∧ KVs h m₀ binds) (h : ∀ L, RunS (X.into (callEnvC fd L a)) m₀ σ body (fun f _ σ' => K (retOf f) σ') (fun x _ σ' => KE x σ')) : CallV X m σ (.ref a) vs [] K KE := fun vals kw => RunC.call fun s S p R q e => by
  obtain rfl := KVs.no p.2
  obtain ⟨binds, hbind, hkv⟩ := hb vals _ p.1
  have c0 := hc s.heap.objs.size
  unfold cellChk at c0
  simp only [Bool.and_eq_true] at c0
  obtain ⟨c1, c2, c3, c4⟩ := c0
  obtain ⟨o, ho, hd⟩ := F.at_
  have hkeys := hkv.keys
  have ndps := nodupB_is c4
  have ndb : (binds.map (·.1)).Nodup := by rw [hkeys, hps]; exact ndps
  have chk : ∀ x ∈ ps, (fd.scope.names.lookup x = some .local ∨ (fd.scope.names.lookup x = some .cell ∧ ((cellsFrom (s.heap.objs.size + 1) fd.scope.names []).lookup x).isSome = true)) ∧ okName x = true := fun x hx => by
    have := List.all_eq_true.mp c3 x hx
    simpa using this
  refine codeAny_call_cells hroom (S.K _ _ ho) hd S.lim (codeRec_of S.K F.code) F.body hbind F.clo (fun x hx => (chk x.1 (by rw [← hps, ← hkeys]; exact List.mem_map_of_mem hx)).1) (fun s₁ I => ?_) F.co F.gen F.kind
  obtain ⟨h₀, tk, rfl, keep⟩ := I.done
  have hkind : ∀ x, (callEnvC fd s.heap.objs.size a).kindOf x = fd.scope.names.lookup x := fun _ => rfl
  have hcells : (callEnvC fd s.heap.objs.size a).cells = cellsFrom (s.heap.objs.size + 1) fd.scope.names [] := rfl
  have fx : ∀ b o, s.heap.get? b = some o → Fixed o → h₀.get? b = some o := fun b o z _ => keep b o z
  have FR₁ : FrameR (callEnvC fd s.heap.objs.size a) m₀ h₀ := by
    refine ⟨⟨_, I.toInCall.ns, fun x v hx hk => ?_⟩, fun x v hx hk => ?_, fun x hk => ?_, fun x v hx => ?_, by rw [hps]; exact ndps⟩
    · obtain ⟨v', h1, h2⟩ := hkv.lookup (by rw [hps]; exact ndps) hx
      exact ⟨v', bindL_of hk ndb h1, h2.move fx⟩
    · have hx' : x ∈ ps := by rw [← hps]; exact List.mem_map_of_mem (f := (·.1)) hx
      obtain ⟨v', h1, h2⟩ := hkv.lookup (by rw [hps]; exact ndps) hx
      rcases (chk x hx').1 with z | ⟨z, y⟩
      · rw [hkind, z] at hk; rcases hk with hk | hk <;> cases hk
      · obtain ⟨c, hcc⟩ := Option.isSome_iff_exists.mp y
        exact ⟨c, v', hcc, by have := I.cell x c hcc; rwa [bindC_of (by rw [hkind]; exact z) ndb h1] at this, h2.move fx⟩
    · have := List.all_eq_true.mp c2 (x, .cell) (lookup_mem' hk)
      simp only [beq_self_eq_true, Bool.not_true, Bool.false_or] at this
      obtain ⟨c, hcc⟩ := Option.isSome_iff_exists.mp this
      exact ⟨c, _, hcc, I.cell x c hcc⟩
    · have hx' : x ∈ ps := by rw [← hps]; exact List.mem_map_of_mem (f := (·.1)) hx
      obtain ⟨z, ok⟩ := chk x hx'
      refine ⟨ok, ?_⟩
      rw [hkind]
      rcases z with z | ⟨z, _⟩
      · exact .inl z
      · exact .inr (.inl z)
  have fresh : ∀ b, s.heap.objs.size ≤ b → s.heap.get? b = none := fun b hb => by
    cases z : s.heap.get? b with
    | none => rfl
    | some o => exact absurd (Heap.lt_size z) (Nat.not_lt.mpr hb)
  have hown : ∀ b ∈ (callEnvC fd s.heap.objs.size a).cells.map (·.2), s.heap.get? b = none ∧ ∃ o, h₀.get? b = some o ∧ ¬ Fixed o := fun b hb => by
    obtain ⟨p, hp, rfl⟩ := List.mem_map.mp hb
    obtain ⟨o, ho, hd⟩ := I.cell p.1 p.2 (lookup_of_mem (nodupB_is c1) hp)
    refine ⟨fresh _ (Nat.le_of_lt (I.above p.1 p.2 hp)), o, ho, ?_⟩
    rintro (⟨_, x, n, z⟩ | ⟨x, z⟩) <;> rw [hd] at z <;> cases z
  have S₁ : SmF (X.into (callEnvC fd s.heap.objs.size a)) m₀ σ { s with heap := h₀, toks := tk } :=
    S.into rfl rfl F.kind F.gl F.bl F.gen F.co keep ⟨_, I.toInCall.ns⟩ FR₁ (by
      show (List.map _ _).Pairwise _
      rw [List.pairwise_map]
      exact I.apart) (fun z => by
      obtain ⟨p, hp, z⟩ := List.mem_map.mp z
      exact absurd z (Nat.ne_of_gt (I.above p.1 p.2 hp))) hown
  have out : ∀ {σ' : MHeap} {h' : Heap}, Tr (callEnvC fd s.heap.objs.size a :: X.fs) (ownOf (callEnvC fd s.heap.objs.size a)) σ h₀ σ' h' → Tr X.fs [] σ s.heap σ' h' := fun T => T.outof rfl rfl keep fun b hb => (hown b hb).1
  refine h _ _ S₁ trivial _ _ (fun f fm m' σ' s' k S' T r => ?_) (fun ev x m' σ' s' k S' T hx => ?_)
  · have T' := out T
    refine q _ _ σ' s' k (S.stepX T' S'.objs S'.gens S'.os) T' ?_
    cases fm with
    | next =>
      have : f = .next := r
      subst this; exact VR.ofNone
    | brk =>
      have : f = .brk := r
      subst this; exact VR.ofNone
    | cont =>
      have : f = .cont := r
      subst this; exact VR.ofNone
    | ret v =>
      obtain ⟨u, rfl, r⟩ : ∃ u, f = .ret u ∧ VR s'.heap v u := r
      exact r
  · refine nt_leaving S₁ S₁.ownc T S' hx fun h₂ S₂ T₂ x₂ => ?_
    have T' := out T₂
    exact e _ x σ' _ k (S.stepX T' S₂.objs S₂.gens S₂.os) T' ⟨_, (x₂ X).start fun b o z => ⟨o, keep b o z⟩⟩
end
end Mine
namespace Mine
theorem ints_are {h : Heap} : ∀ {ns : List Int} {vs : List Value}, VRs h (ns.map .int) vs → IntsAre vs ns
  | [], _, r => by obtain rfl := VRs.no r; exact .nil
  | n :: l, _, r => by
    unfold List.map VRs at r
    obtain ⟨v, t, rfl, a, b⟩ := r
    obtain ⟨k, rfl⟩ := VR.int a
    exact .cons n k (ints_are b)
theorem bp2 {fd : FuncData} {p q : Str} {a b : MV} (h : ∀ v u, bindArgs fd ⟨[v, u], []⟩ = pure [(p, v), (q, u)]) : ∀ vals hp, VRs hp [a, b] vals → ∃ binds, bindArgs fd ⟨vals, []⟩ = pure binds ∧ KVs hp [(p, a), (q, b)] binds := fun vals hp r => by
  obtain ⟨v, u, rfl, hv, hu⟩ := VRs.two r
  exact ⟨_, h v u, v, _, rfl, hv, u, [], rfl, hu, rfl⟩
end Mine
namespace Mine
end Mine
namespace Mine
section
variable {X : Fx} {m : Loc} {σ : MHeap} {KE : Value → MHeap → Prop}
noncomputable def iEq (i : Int) (v : Value) : Bool := match v with | .int j _ => j == i | _ => false
theorem any_ints {h : Heap} {i : Int} : ∀ {ns : List Int} {vs : List Value}, VRs h (ns.map .int) vs → vs.any (iEq i) = decide (i ∈ ns)
  | [], _, r => by obtain rfl := VRs.no r; simp
  | n :: l, _, r => by
    unfold List.map VRs at r
    obtain ⟨v, t, rfl, a, b⟩ := r
    obtain ⟨k, rfl⟩ := VR.int a
    rw [List.any_cons, any_ints b]
    show (n == i || _) = _
    by_cases q : i = n
    · subst q; simp
    · have q' : ¬ n = i := fun z => q z.symm
      simp [q, q']
theorem all_ints {h : Heap} : ∀ {ns : List Int} {vs : List Value}, VRs h (ns.map .int) vs → ∀ v ∈ vs, ∃ j t, v = .int j t
  | [], _, r, v, hv => by obtain rfl := VRs.no r; cases hv
  | n :: l, _, r, v, hv => by
    unfold List.map VRs at r
    obtain ⟨u, t, rfl, a, b⟩ := r
    obtain ⟨k, rfl⟩ := VR.int a
    rcases List.mem_cons.mp hv with z | z
    · exact ⟨n, k, z⟩
    · exact all_ints b v z
end
end Mine
namespace Mine
end Mine
namespace Mine
section
variable {prog : Program} {w : World} {A : Around} {E : Value → Shared → Prop} {s : Shared} {env : Env}
theorem slice_any {value : Expr} {lower upper : Option Expr} {p pos : Pos} {Q : Value → Shared → Prop}
    (h : wpAny (model prog w) A (eval value env) (fun o s₁ => wpAny (model prog w) A (evalPart lower env) (fun vl s₂ => wpAny (model prog w) A (evalPart upper env) (fun vu s₃ =>
      ∃ l items lo hi, o = .ref l ∧ s₃.heap.IsList l items ∧ items.size ≤ sizeLine ∧ IsPart vl lo ∧ IsPart vu hi ∧
        Q (.ref (s₃.heap.objs.size + 1)) { s₃ with heap := (s₃.heap.push { cls := .type "slice", data := .fields #[vl, vu, .none] }).push { cls := .type "list", data := .seq (slicePick items lo hi none) } }) E s₂) E s₁) E s) :
    wpAny (model prog w) A (eval (.Subscript value (.Slice lower upper none p) pos) env) Q E s := by
  refine Subscript_ (wpAny_mono h (fun o s₁ h₁ => wpAny_Slice (wpAny_mono h₁ (fun vl s₂ h₂ => wpAny_mono h₂ (fun vu s₃ h₃ => ?_) fun _ _ e => e) fun _ _ e => e)) fun _ _ e => e)
  obtain ⟨l, items, lo, hi, rfl, hl, hsz, pl, pu, hQ⟩ := h₃
  rw [evalPart_none]
  refine wpAny_pure ?_
  have hT : (⟨s₃.heap.push { cls := .type "slice", data := .fields #[vl, vu, .none] }, s₃.gens, s₃.drawn, s₃.toks, s₃.os⟩ : Shared).TypeIs (.ref l) "list" := (hl.push _).typeIs
  have g : wpAny (model prog w) A (getItem (.ref l) (.ref s₃.heap.objs.size)) Q E { s₃ with heap := s₃.heap.push { cls := .type "slice", data := .fields #[vl, vu, .none] } } := by
    refine wpAny_getItem_list_slice (hl.push _) (Heap.IsSliceOf.new ..) pl pu .none (by simp) ?_ hsz
    rw [Heap.size_push]
    exact hQ
  refine kba_turn (value' := .Name "_" ⟨0, 0, 0, 0⟩) (fun _ => rfl) ?_
  unfold subscriptTail
  refine wpAny_bind ?_
  rw [getitemInPython_of_ne hT.not_modules]
  refine wpAny_bind (wpAny_specialOf hT list_getitem_lookup ?_)
  have fin : wpAny (model prog w) A (subscripted (.Slice lower upper none p) false (.ref l) (.ref s₃.heap.objs.size)) (fun r s₃' => wpAny (model prog w) A (letTemporaryGo (.Name "_" ⟨0, 0, 0, 0⟩) (.ref l) r >>= fun _ => pure r) Q E s₃') E { s₃ with heap := s₃.heap.push { cls := .type "slice", data := .fields #[vl, vu, .none] } } :=
    wpAny_operating (wpAny_mono g (fun r s₃ h₃ => wpAny_bind (wpAny_pure (wpAny_pure h₃))) fun _ _ x => x)
  first
    | exact wpAny_pure (wpAny_bind fin)
    | exact wpAny_bind (wpAny_pure (wpAny_bind fin))
    | exact wpAny_bind fin
end
section
variable {X : Fx} {m : Loc} {σ : MHeap} {KE : Value → MHeap → Prop}
theorem vrs_ints {h : Heap} : ∀ {vs : List Value} {ns : List Int}, IntsAre vs ns → VRs h (ns.map .int) vs
  | _, _, .nil => VRs.nil
  | _, _, .cons n k r => VRs.cons VR.ofInt (vrs_ints r)
noncomputable def GList (C : Cx) (a : Addr) (ns : List Int) : Prop := ∃ vs, C.g.IsList a vs ∧ IntsAre vs.toList ns
noncomputable def IsL (X : Fx) (σ : MHeap) (v : MV) (l : List MV) : Prop := (∃ a, v = .ref a ∧ σ.L a = some l) ∨ ∃ a ns, v = .raw (.ref a) ∧ l = ns.map .int ∧ GList X.C a ns
theorem IsL.own {a : Addr} {l : List MV} (h : σ.L a = some l) : IsL X σ (.ref a) l := .inl ⟨a, rfl, h⟩
theorem IsL.old {a : Addr} {ns : List Int} (h : GList X.C a ns) : IsL X σ (.raw (.ref a)) (ns.map .int) := .inr ⟨a, ns, rfl, rfl, h⟩
theorem SmF.isL {s : Shared} (S : SmF X m σ s) {v : MV} {l : List MV} {u : Value} {h : Heap} (i : IsL X σ v l) (r : VR h v u) : ∃ a vs, u = .ref a ∧ VRs s.heap l vs.toList ∧ s.heap.IsList a vs ∧ s.TypeIs (.ref a) "list" ∧ vs.size = l.length := by
  rcases i with ⟨a, rfl, hl⟩ | ⟨a, ns, rfl, rfl, vs, hg, hi⟩
  · obtain rfl := VR.ref r
    obtain ⟨vs, n, e, z⟩ := S.list hl
    exact ⟨a, vs, rfl, z⟩
  · obtain rfl := VR.raw r
    have il : s.heap.IsList a vs := let ⟨o, e, z⟩ := hg; ⟨o, S.base _ _ e, z⟩
    have r' : VRs s.heap (ns.map .int) vs.toList := vrs_ints hi
    exact ⟨a, vs, rfl, r', il, il.typeIs, by rw [← r'.length]; simp⟩
theorem t_listG {v : MV} {l : List MV} {K} (hl : IsL X σ v l) (hz : l.length ≤ 1000000) (h : K (!l.isEmpty) σ) : Op1 X m σ BR truthy v K KE := fun v s S p Q E q e => by
  obtain ⟨a, vs, rfl, r, il, ty, hn⟩ := S.isL hl p
  refine wpAny_truthy_list il (by rw [hn]; omega) (q _ (!l.isEmpty) σ _ h (S.tok _) Tr.refl ?_)
  show (!vs.isEmpty) = !l.isEmpty
  congr 1
  rw [Bool.eq_iff_iff, List.isEmpty_iff, Array.isEmpty_iff]
  constructor
  · intro z; rw [z] at hn; exact List.length_eq_zero_iff.mp (by simpa using hn.symm)
  · intro z; rw [z] at hn; exact Array.size_eq_zero_iff.mp hn
theorem ev_sliceG {value lower upper p pos} {K}
    (h : EvE X m σ value (fun ov σ₁ => EvP X m σ₁ lower (fun vl σ₂ => EvP X m σ₂ upper (fun vu σ₃ => ∃ l lo hi, IsL X σ₃ ov l ∧ l.length ≤ 1000000 ∧ PartM vl lo ∧ PartM vu hi ∧ ∀ b, ¬ σ₃.Dom b → K (.ref b) (σ₃.setL b (pickL l lo hi))) KE) KE) KE) :
    EvE X m σ (.Subscript value (.Slice lower upper none p) pos) K KE := fun s S _ Q E q e =>
  slice_any (h s S trivial _ E (fun o ov σ₁ s₁ h₁ S₁ T₁ r₁ => h₁ s₁ S₁ trivial _ E (fun vl ml σ₂ s₂ h₂ S₂ T₂ r₂ => h₂ s₂ S₂ trivial _ E (fun vu mu σ₃ s₃ h₃ S₃ T₃ r₃ => by
    obtain ⟨l, lo, hi, hl, hz, pl, pu, k⟩ := h₃
    obtain ⟨a, vs, rfl, r, il, ty, hn⟩ := S₃.isL hl r₁
    obtain ⟨S₄, T₄⟩ := S₃.push (o := { cls := .type "slice", data := .fields #[vl, vu, .none] }) (tk := s₃.toks) rfl SameOff.refl (AtD.none S₃.objs S₃.fresh.1)
    have hp := pl.is r₂
    have r' : VRs s₃.heap (pickL l lo hi) (slicePick vs lo hi none).toList := by
      rw [slicePick_plain, pickL, hn]
      simp only []
      exact (r.drop _).take _
    have hk : ∀ b o, s₃.heap.get? b = some o → ((s₃.heap.push { cls := .type "slice", data := .fields #[vl, vu, .none] }).push { cls := .type "list", data := .seq (slicePick vs lo hi none) }).get? b = some o := fun b o z => Heap.get?_push_of_some _ (Heap.get?_push_of_some _ z)
    obtain ⟨S₅, T₅⟩ := S₄.push (o := { cls := .type "list", data := .seq (slicePick vs lo hi none) }) (tk := s₃.toks) rfl (SameOff.setL (x := pickL l lo hi))
      (AtD.list (vs := slicePick vs lo hi none) (n := 0) S₄.objs (.inr S₄.fresh.1) (Heap.get?_push_size _ rfl) (r'.move fun b o z _ => hk b o z))
    refine ⟨a, vs, lo, hi, rfl, il, by rw [hn, sizeLine_eq]; omega, hp, pu.is r₃, ?_⟩
    have e1 : (s₃.heap.push { cls := .type "slice", data := .fields #[vl, vu, .none] }).objs.size = s₃.heap.objs.size + 1 := Heap.size_push _ _
    have z := q _ (.ref _) _ _ (k _ S₄.fresh.2) S₅ (((T₁.trans T₂).trans T₃).trans (T₄.trans T₅)) VR.ofRef
    rw [e1] at z
    exact z) ((e.after T₁).after T₂)) (e.after T₁)) e)
theorem ev_subG {value slice : Expr} {pos : Pos} {K : MV → MHeap → Prop} (hn : notSlice slice = true)
    (h : EvE X m σ value (fun ov σ₁ => EvE X m σ₁ slice (fun iv σ₂ => ∃ (i : Int) (l : List MV) (v : MV), iv = .int i ∧ 0 ≤ i ∧ i < 1000000 ∧ IsL X σ₂ ov l ∧ l.length ≤ 1000000 ∧ l[i.toNat]? = some v ∧ K v σ₂) KE) KE) :
    EvE X m σ (.Subscript value slice pos) K KE := fun s S _ Q E q e =>
  Subscript_ (h s S trivial _ E (fun o ov σ₁ s₁ h₁ S₁ T₁ r₁ => h₁ s₁ S₁ trivial _ E (fun i iv σ₂ s₂ h₂ S₂ T₂ r₂ => by
    obtain ⟨i, l, v, rfl, h0, hz, hl, hll, hj, k⟩ := h₂
    obtain ⟨t2, rfl⟩ := VR.int r₂
    obtain ⟨a, vs, rfl, r, il, ty, hsz⟩ := S₂.isL hl r₁
    obtain ⟨u, hu, ru⟩ := r.get hj
    exact tail_any (T := "list") ty look_list (wpAny_getItem_list il h0 (by omega) (by rw [← Array.getElem?_toList]; exact hu) (q _ v σ₂ _ k S₂ (T₁.trans T₂) ru)) (sub_plain hn)) (e.after T₁)) e)
end
end Mine
namespace Mine
theorem madeOf {h h' : Heap} {e : Addr} {cls : String} {args : List Value} (x : Heap.MadeExc h h' e cls args) : Heap.MadeExcOf h h' e (.type cls) args := ⟨x.keeps, x.new, x.there⟩
section
variable {prog : Program} {w : World} {A : Around} {s : Shared} {E : Value → Shared → Prop} {α : Type}
theorem HOk.apart {h h' : Heap} {e : Addr} {hd : Option Value} (p : HOk hd h) (k : ∀ b o, h.get? b = some o → h'.get? b = some o) (n : h.get? e = none) : Apart hd e h' := fun v hv => by
  obtain ⟨x, l, q, c⟩ := p v hv
  refine ⟨x, l, q, c.same fun b hb => ?_, fun z => ?_⟩
  · obtain ⟨o, ho⟩ := c.there b hb
    rw [ho]; exact k b o ho
  · obtain ⟨o, ho⟩ := c.there _ z
    rw [n] at ho; cases ho
theorem raise_words {cls msg : String} {Q : α → Shared → Prop} (pl : PlainExc cls) (hp : HOk A.handled s.heap) (q : ∀ h' tk e args, Heap.MadeExcOf s.heap h' e (.type cls) args → E (.ref e) { s with heap := raisedH A.handled e h', toks := tk }) :
    wpAny (model prog w) A (raiseErrorWords cls msg : Sem α) Q E s := by
  unfold raiseErrorWords mkText
  refine wpAny_bind (wpAny_bind (wpAny_fresh ?_))
  refine wpAny_pure ?_
  refine wpAny_bind (wpAny_newExc_plain pl fun h' e hm => ?_)
  obtain ⟨t, ht, _⟩ := hm.there
  exact raise_any (hp.apart hm.keeps hm.new) ht rfl (by simp) (q _ _ _ _ (madeOf hm))
theorem pop_empty (l : Addr) (items : Array Value) (n : Nat) (u : Tok) (h0 : items.isEmpty = true) :
    Meets (Builtin.«list.pop» ⟨[.ref l, .int 0 u], []⟩) (fun A R s => s.heap.get? l = some (listOf items n) ∧ HOk A.handled s.heap ∧ ∀ h' tk e args, Heap.MadeExcOf s.heap h' e (.type "IndexError") args → R (.error (.ref e)) { s with heap := raisedH A.handled e h', toks := tk }) :=
  .of_wp fun prog w A R s h => by
    obtain ⟨hp, g, d, tk, os⟩ := s; obtain ⟨hl, hk, h⟩ := h
    have hf : ¬ (!Builtin.List.listFitsIndex 0) = true := by decide
    wp_walk using PySem.AutoSeq1.wpAny_loadPart' hl
    exact raise_words plainExc_IndexError hk h
end
section
variable {X : Fx} {m : Loc} {σ : MHeap} {KE : Value → MHeap → Prop}
theorem SmF.raised {s : Shared} (S : SmF X m σ s) {h' : Heap} {e : Addr} {cls : Value} {args : List Value} {tk : Nat} (hm : Heap.MadeExcOf s.heap h' e cls args) :
    SmF X m σ { s with heap := raisedH X.hd e h', toks := tk } ∧ Tr X.fs [] σ s.heap σ (raisedH X.hd e h') ∧ ExcAt X s.heap cls (.ref e) (raisedH X.hd e h') := by
  have k : ∀ b o, s.heap.get? b = some o → (raisedH X.hd e h').get? b = some o := fun b o z => raisedH_keep (hm.keeps b o z) fun q => by rw [q, hm.new] at z; cases z
  have T : Tr X.fs [] σ s.heap σ (raisedH X.hd e h') := ⟨fun b o z _ _ _ => k b o z, fun b o z _ _ => ⟨o.slots, k b o z⟩, fun b o z => ⟨o, k b o z⟩, fun _ d => .inl d⟩
  refine ⟨S.stepE T (S.objs.keep k), T, ?_⟩
  obtain ⟨t, ht, _⟩ := hm.there
  obtain ⟨o', h1, h2, h3⟩ := raisedH_self (hd := X.hd) ht rfl
  have ap : Apart X.hd e h' := HOk.apart S.hnd hm.keeps hm.new
  cases z : X.hd with
  | none =>
    rw [z] at h1 h3
    exact ⟨false, e, o', _, [e], rfl, hm.new, h1, h2, h3, .last h1 h3 rfl, .inl ⟨rfl, rfl⟩⟩
  | some v =>
    rw [z] at h1 h3
    obtain ⟨x, l, rfl, c, n⟩ := ap v z
    refine ⟨false, e, o', _, e :: l, rfl, hm.new, h1, h2, h3, .next h1 h3 rfl (c.same fun b hb => raisedH_other fun q => n (q ▸ hb)) n, .inl ⟨rfl, rfl⟩⟩
theorem cv_pop0_empty {a : Addr} {K} (hl : σ.L a = some []) (h : KE (.type "IndexError") σ) : CallV X m σ (.builtin "list.pop") [.ref a, .int 0] [] K KE := fun vals kw s S p Q E q e => by
  obtain ⟨o, w, rfl, ho, hw⟩ := VRs.two p.1
  obtain rfl := VR.ref ho
  obtain ⟨t, rfl⟩ := VR.int hw
  obtain rfl := KVs.no p.2
  obtain ⟨vs, n, hg, r, il, ty, hn⟩ := S.list hl
  have he : vs.isEmpty = true := by simpa using hn
  refine call_meets PySem.F.slot_list_pop ty PySem.F.entry_list_pop (PySem.F.args_list_pop_2 _ _) (pop_empty a vs n t he) ⟨hg, S.hnd, fun h' tk x args hm => ?_⟩
  obtain ⟨S', T', x'⟩ := S.raised (tk := tk) hm
  exact e _ _ σ _ h S' T' x'
end
end Mine
namespace Mine
noncomputable abbrev Fx.mark (X : Fx) (e : Addr) : Fx := { X with A := X.A.mark (some (.ref e)) }
theorem ExcTb.keep {X : Fx} {nt : Bool} {h₀ h h' : Heap} {x ev : Value} (p : ExcTb X nt h₀ x ev h) (k : ∀ b o, h.get? b = some o → Fixed o → h'.get? b = some o) : ExcTb X nt h₀ x ev h' := by
  obtain ⟨e, oe, vs, l, q1, q2, q3, q4, q5, q6, q7⟩ := p
  refine ⟨e, oe, vs, l, q1, q2, k _ _ q3 (.inr ⟨_, q5⟩), q4, q5, q6.move k, ?_⟩
  rcases q7 with q7 | ⟨T, oT, ts, fl, r1, r2, r3, r4, r5, r6⟩
  · exact .inl q7
  · exact .inr ⟨T, oT, ts, fl, r1, r2, r3, k _ _ r4 (.inr ⟨_, r5⟩), r5, r6⟩
theorem ExcTb.chain {X : Fx} {nt : Bool} {h₀ h : Heap} {x : Value} {e : Addr} (p : ExcTb X nt h₀ x (.ref e) h) : ∃ l, Chain h e l := by
  obtain ⟨e', _, _, l, q, _, _, _, _, c, _⟩ := p
  cases q; exact ⟨l, c⟩
theorem ExcAt.isRef {X : Fx} {h₀ h : Heap} {x ev : Value} (p : ExcAt X h₀ x ev h) : ∃ e, ev = .ref e := by
  obtain ⟨_, e, _, _, _, q, _⟩ := p; exact ⟨e, q⟩
noncomputable def Hit (C : Cx) (x t : Value) (b : Bool) : Prop := ∀ (A : Around) (E : Value → Shared → Prop) (Q : Bool → Shared → Prop) (s : Shared) (a : Addr) (o : Obj), C.K.In s.heap → s.heap.get? a = some o → o.cls = x → Q b s → wpAny C.M A (excMatches (.ref a) t) Q E s
section
variable {X : Fx} {m m₀ : Loc} {σ σ₀ : MHeap} {s s₀ : Shared} {e : Addr}
theorem SmF.mark (S : SmF X m σ s) (h : ∃ l, Chain s.heap e l) : SmF (X.mark e) m σ s :=
  { base := S.base, sep := S.sep, objs := S.objs, funf := S.funf, frc := S.frc, gens := S.gens, os := S.os, hnd := fun v hv => by obtain rfl : Value.ref e = v := Option.some.inj hv; obtain ⟨l, c⟩ := h; exact ⟨e, l, rfl, c⟩,
    ok := ⟨S.ok.frames, S.ok.top, S.ok.fn, S.ok.gl, S.ok.bl, fun z => ref_ne_byPass e (Option.some.inj z), S.ok.cellsApart, S.ok.localsApart⟩, frame := S.frame, sepo := S.sepo, ownc := S.ownc }
theorem SmF.unmark (S : SmF (X.mark e) m σ s) (S₀ : SmF X m₀ σ₀ s₀) (T : Tr X.fs X.own σ₀ s₀.heap σ s.heap) : SmF X m σ s :=
  { base := S.base, sep := S.sep, objs := S.objs, funf := S.funf, frc := S.frc, gens := S.gens, os := S.os, hnd := fun v hv => by obtain ⟨x, l, q, c, _⟩ := S₀.hndFrom S₀.ownc T hv; exact ⟨x, l, q, c⟩,
    ok := ⟨S.ok.frames, S.ok.top, S.ok.fn, S.ok.gl, S.ok.bl, S₀.ok.nb, S.ok.cellsApart, S.ok.localsApart⟩, frame := S.frame, sepo := S.sepo, ownc := S.ownc }
theorem er_hand {KE : Value → Loc → MHeap → Prop} {E : Value → Shared → Prop} (S₀ : SmF X m₀ σ₀ s₀) (er : ErL X σ₀ s₀.heap KE E) {σ₁ : MHeap} {m₁ : Loc} {s₁ : Shared} (S₁ : SmF (X.mark e) m₁ σ₁ s₁) (T₁ : Tr X.fs X.own σ₀ s₀.heap σ₁ s₁.heap) :
    ErL (X.mark e) σ₁ s₁.heap KE (notedBy X.C.M (X.A.mark (some (.ref e))) X.env (cameBackBy X.C.M X.A X.env E)) := fun ev x m' σ' s' k S T hx => by
  unfold notedBy
  refine nt_note (X := X.mark e) S₁ S₁.ownc T S hx fun h₁ S₂ T₂ x₂ => ?_
  unfold cameBackBy
  have x₃ : ExcTb X true s₀.heap x ev h₁ := ExcTb.start (X := X) x₂ T₁.there
  have T₃ : Tr X.fs X.own σ₀ s₀.heap σ' h₁ := T₁.trans T₂
  have S₃ : SmF X m' σ' { s' with heap := h₁ } := S₂.unmark S₀ T₃
  obtain ⟨e', oe, vs, l, rfl, h0, he, rfl, hd, c, hh⟩ := id x₃
  rcases hh with ⟨_, q⟩ | ⟨T', oT, ts, fl, h1, _⟩
  · cases q
  · refine wpAny_bind (wpAny_field he hd h1 ?_)
    rw [if_neg (show ¬ ((Value.ref T' == Value.none) = true) from by simp)]
    refine nt_flight (s := { s' with heap := h₁ }) S₀ S₀.ownc T₃ S₃ x₃ (.inr rfl) fun h₂ S₄ T₄ x₄ => ?_
    exact er _ _ m' σ' _ k S₄ T₄ ⟨_, x₄ X (.inr rfl)⟩
theorem pass_on {α : Type} {what : String} {x : Value} {Q : α → Shared → Prop} {KE : Value → Loc → MHeap → Prop} {E : Value → Shared → Prop} (S₀ : SmF X m₀ σ₀ s₀) (er : ErL X σ₀ s₀.heap KE E) (S : SmF X m σ s) (T : Tr X.fs X.own σ₀ s₀.heap σ s.heap)
    (hx : ExcTb X true s₀.heap x (.ref e) s.heap) (k : KE x m σ) : wpAny X.C.M X.A (PySem.passOn what (.ref e) X.env : Sem α) Q E s := by
  unfold PySem.passOn
  obtain ⟨e', oe, vs, l, q, h0, he, rfl, hd, c, hh⟩ := id hx
  cases q
  rcases hh with ⟨_, q⟩ | ⟨T', oT, ts, fl, h1, _⟩
  · cases q
  · refine wpAny_bind (wpAny_field he hd h1 ?_)
    rw [if_neg (show ¬ ((Value.ref T' == Value.none) = true) from by simp)]
    refine wpAny_bind (nt_flight S₀ S₀.ownc T S hx (.inr rfl) fun h₂ S₄ T₄ x₄ => ?_)
    exact wpAny_throw (er _ _ m σ _ k S₄ T₄ ⟨_, x₄ X (.inr rfl)⟩)
end
section
variable {X : Fx} {m : Loc} {σ : MHeap} {K : FlowM → Loc → MHeap → Prop} {KE : Value → Loc → MHeap → Prop}
noncomputable def HandleM (X : Fx) (e : Addr) (x : Value) (m : Loc) (σ : MHeap) (K : FlowM → Loc → MHeap → Prop) (KE : Value → Loc → MHeap → Prop) : List ExceptHandler → Prop
  | [] => KE x m σ
  | .ExceptHandler (some t) none (b₀ :: suite) _ :: rest => EvE (X.mark e) m σ t (fun tv σ' => ∃ tV b, tv = .raw tV ∧ Hit X.C x tV b ∧ σ' = σ ∧ if b = true then RunS (X.mark e) m σ (b₀ :: suite) K KE else HandleM X e x m σ K KE rest) (fun _ _ => False)
  | _ => False
theorem handle_ok {s₀ : Shared} {m₀ : Loc} {σ₀ : MHeap} (S₀ : SmF X m₀ σ₀ s₀) {e : Addr} {x : Value} {Q : Flow → Shared → Prop} {E : Value → Shared → Prop} (q : OkL X σ₀ s₀.heap FR K Q) (er : ErL X σ₀ s₀.heap KE E) : ∀ (hs : List ExceptHandler) (m : Loc) (σ : MHeap) (s : Shared) (S : SmF X m σ s)
    (T : Tr X.fs X.own σ₀ s₀.heap σ s.heap) (hx : ExcTb X true s₀.heap x (.ref e) s.heap) (H : HandleM X e x m σ K KE hs), wpAny X.C.M X.A (handleBy (.ref e) X.env hs) Q E s
  | [], m, σ, s, S, T, hx, H => wpAny_handleBy_nil (pass_on S₀ er S T hx H)
  | .ExceptHandler none _ _ _ :: rest, m, σ, s, S, T, hx, H => H.elim
  | .ExceptHandler (some t) (some _) _ _ :: rest, m, σ, s, S, T, hx, H => H.elim
  | .ExceptHandler (some t) none [] _ :: rest, m, σ, s, S, T, hx, H => H.elim
  | .ExceptHandler (some t) none (b₀ :: suite) pos :: rest, m, σ, s, S, T, hx, H => by
    have Sm := S.mark hx.chain
    refine wpAny_handleBy_cons (codeAny_handlers_test (H s Sm trivial _ _ (fun tV tv σ₁ s₁ h₁ S₁ T₁ r₁ => ?_) (fun ev y σ₁ s₁ k _ _ _ => k.elim))) (by intro z; cases z)
    obtain ⟨tV', b, rfl, hit, rfl, h₁⟩ := h₁
    obtain rfl := VR.raw r₁
    have fx : ∀ b o, s.heap.get? b = some o → Fixed o → s₁.heap.get? b = some o := Sm.fx T₁
    have hx₁ : ExcTb X true s₀.heap x (.ref e) s₁.heap := hx.keep fx
    have T₁' : Tr X.fs X.own σ₀ s₀.heap σ₁ s₁.heap := T.trans (T₁.own (fs := X.fs))
    have S₁' : SmF X m σ₁ s₁ := S₁.unmark S₀ T₁'
    obtain ⟨e', oe, vs, l, qe, h0, he, hcls, hd, c, hh⟩ := id hx₁
    cases qe
    refine hit _ _ _ s₁ e oe S₁.K he hcls ?_
    cases b with
    | false => exact handle_ok S₀ q er rest m σ₁ s₁ S₁' T₁' hx₁ h₁
    | true =>
      refine codeAny_handlers_suite (nt_flight S₀ S₀.ownc T₁' S₁' hx₁ (.inl rfl) fun h₂ S₂ T₂ x₂ => ?_)
      have S₃ := S₂.mark (x₂ X (.inl rfl)).chain
      refine h₁ _ S₃ trivial _ _ (fun f fm m' σ' s' k S' T' r => ?_) (er_hand S₀ er S₃ T₂)
      have T3 : Tr X.fs X.own σ₀ s₀.heap σ' s'.heap := T₂.trans T'
      exact q f fm m' σ' s' k (S'.unmark S₀ T3) T3 r
theorem r1_Try {body orelse h₀ hs p} (KE1 : Value → Loc → MHeap → Prop) (h : RunS X m σ body (seqK X orelse K KE) KE1) (hd : ∀ e x m' σ', KE1 x m' σ' → HandleM X e x m' σ' K KE (h₀ :: hs)) : Run1 X m σ (.Try body (h₀ :: hs) orelse [] p) K KE := fun s S _ Q E q er =>
  wpAny_Try_except (h s S trivial _ _ (fun f fm m' σ' s' k S' T r => by
    cases fm with
    | next =>
      have : f = .next := r
      subst this
      exact k s' S' trivial Q E (q.after T) (er.after T)
    | brk =>
      have : f = .brk := r
      subst this
      exact q _ .brk m' σ' s' k S' T rfl
    | cont =>
      have : f = .cont := r
      subst this
      exact q _ .cont m' σ' s' k S' T rfl
    | ret v =>
      obtain ⟨u, rfl, r⟩ : ∃ u, f = .ret u ∧ VR s'.heap v u := r
      exact q _ (.ret v) m' σ' s' k S' T ⟨u, rfl, r⟩) (fun ev x m' σ' s' k S' T hx => by
    refine nt_note S S.ownc T S' hx fun h₁ S₁ T₁ x₁ => ?_
    refine nt_flight S S.ownc T₁ S₁ x₁ (.inl rfl) fun h₂ S₂ T₂ x₂ => ?_
    obtain ⟨e, rfl⟩ := hx.isRef
    exact handle_ok S q er _ m' σ' _ S₂ T₂ (x₂ X (.inl rfl)) (hd e x m' σ' k)))
noncomputable def finE (K : FlowM → Loc → MHeap → Prop) (KE : Value → Loc → MHeap → Prop) (x : Value) : FlowM → Loc → MHeap → Prop
  | .next, m', σ' => KE x m' σ'
  | .ret _, _, _ => False
  | g, m', σ' => K g m' σ'
theorem fe_next {x} (h : KE x m σ) : finE K KE x .next m σ := h
theorem r1_Fin {body f₀ fs p} (KE1 : Value → Loc → MHeap → Prop) (h : RunS X m σ body (fun f m' σ' => RunS X m' σ' (f₀ :: fs) (finK K f) KE) KE1) (hd : ∀ e x m' σ', KE1 x m' σ' → RunS (X.mark e) m' σ' (f₀ :: fs) (finE K KE x) KE) : Run1 X m σ (.Try body [] [] (f₀ :: fs) p) K KE := fun s S _ Q E q er => by
  have fin : ∀ {f fm m' σ' s'}, RunS X m' σ' (f₀ :: fs) (finK K fm) KE → SmF X m' σ' s' → Tr X.fs X.own σ s.heap σ' s'.heap → FR s'.heap fm f →
      wpAny X.C.M X.A (execs (f₀ :: fs) X.env) (fun g s' => match g with | .next => Q f s' | g => Q g s') (notedBy X.C.M X.A X.env (cameBackBy X.C.M X.A X.env E)) s' := by
    intro f fm m' σ' s' k S' T r
    refine k s' S' trivial _ _ (fun g gm m₂ σ₂ s₂ k₂ S₂ T₂ r₂ => ?_) (fun ev x m₂ σ₂ s₂ k₂ S₂ T₂ hx => er_loop S er k₂ S₂ (T.trans T₂) (hx.start T.there))
    have T3 := T.trans T₂
    cases gm with
    | next =>
      have : g = .next := r₂
      subst this
      refine q f fm m₂ σ₂ s₂ k₂ S₂ T3 ?_
      cases fm with
      | ret v =>
        obtain ⟨u, rfl, r⟩ : ∃ u, f = .ret u ∧ VR s'.heap v u := r
        exact ⟨u, rfl, r.move (S'.fxL T₂)⟩
      | _ => exact r
    | brk =>
      have : g = .brk := r₂
      subst this
      exact q _ .brk m₂ σ₂ s₂ k₂ S₂ T3 rfl
    | cont =>
      have : g = .cont := r₂
      subst this
      exact q _ .cont m₂ σ₂ s₂ k₂ S₂ T3 rfl
    | ret v =>
      obtain ⟨u, rfl, r₂⟩ : ∃ u, g = .ret u ∧ VR s₂.heap v u := r₂
      exact q _ (.ret v) m₂ σ₂ s₂ k₂ S₂ T3 ⟨u, rfl, r₂⟩
  refine wpAny_Try_finally (h s S trivial _ _ (fun f fm m' σ' s' k S' T r => ?_) (fun ev x m' σ' s' k S' T hx => ?_))
  · have z := fin k S' T r
    cases f with
    | next => exact wpAny_execs_nil z
    | _ => exact z
  · refine nt_note S S.ownc T S' hx fun h₁ S₁ T₁ x₁ => ?_
    obtain ⟨e, rfl⟩ := hx.isRef
    refine ⟨ref_ne_byPass e, nt_note (s := { s' with heap := h₁ }) S S.ownc T₁ S₁ ⟨_, x₁⟩ fun h₂ S₂ T₂ x₂ => ?_⟩
    refine nt_flight (s := { s' with heap := h₂ }) S S.ownc T₂ S₂ x₂ (.inl rfl) fun h₃ S₃ T₃ x₃ => ?_
    have x₃' := x₃ X (.inl rfl)
    have Sm := S₃.mark x₃'.chain
    refine hd e x m' σ' k _ Sm trivial _ _ (fun g gm m₂ σ₂ s₂ k₂ Sg Tg r₂ => ?_) (er_hand S er Sm T₃)
    have T4 : Tr X.fs X.own σ s.heap σ₂ s₂.heap := T₃.trans Tg
    have S4 := Sg.unmark S T4
    have fx : ∀ b o, h₃.get? b = some o → Fixed o → s₂.heap.get? b = some o := Sm.fxL Tg
    have x4 := x₃'.keep fx
    cases gm with
    | next =>
      have : g = .next := r₂
      subst this
      exact pass_on S er S4 T4 x4 k₂
    | brk =>
      have : g = .brk := r₂
      subst this
      exact nt_flight S S.ownc T4 S4 x4 (.inl rfl) fun h₅ S₅ T₅ _ => q _ .brk m₂ σ₂ _ k₂ S₅ T₅ rfl
    | cont =>
      have : g = .cont := r₂
      subst this
      exact nt_flight S S.ownc T4 S4 x4 (.inl rfl) fun h₅ S₅ T₅ _ => q _ .cont m₂ σ₂ _ k₂ S₅ T₅ rfl
    | ret v =>
      exact (show False from k₂).elim
end
end Mine
namespace Mine
theorem hit_of {C : Cx} {x t : Value} {b : Bool} (h1 : peek C.K ⟨C.prog, C.w.params⟩ (isInstance t (.type "tuple")) = some false) (h2 : peek C.K ⟨C.prog, C.w.params⟩ (isExcClass t) = some true) (h3 : peek C.K ⟨C.prog, C.w.params⟩ (isSubtype x t) = some b) : Hit C x t b := by
  intro A E Q s a o hK ho hc q
  have l1 : Looks C.M s.heap _ _ := Looks.of_peek (M := C.M) hK h1
  have l2 : Looks C.M s.heap _ _ := Looks.of_peek (M := C.M) hK h2
  have l3 : Looks C.M s.heap _ _ := Looks.of_peek (M := C.M) hK h3
  unfold excMatches
  refine wpAny_bind (l1.here ?_)
  simp only [Bool.false_eq_true, if_false, List.forIn_cons, List.forIn_nil, bind_assoc, pure_bind]
  refine wpAny_bind (l2.here ?_)
  simp only [Bool.not_true, Bool.false_eq_true, if_false, pure_bind]
  have tO : wpAny C.M A (typeOf (.ref a)) (fun te s' => te = x ∧ s' = s) E s := by
    unfold typeOf
    exact wpAny_bind (wpAny_loadPart ho (wpAny_pure ⟨hc, rfl⟩))
  refine wpAny_bind (wpAny_mono tO (fun te s' z => ?_) fun _ _ z => z)
  obtain ⟨rfl, rfl⟩ := z
  refine wpAny_bind (l3.here ?_)
  cases b with
  | true => exact wpAny_bind (wpAny_pure (wpAny_bind (wpAny_pure (wpAny_pure q))))
  | false => exact wpAny_bind (wpAny_pure (wpAny_bind (wpAny_pure (wpAny_pure q))))
end Mine
namespace Mine
theorem exc_cls {K : Frag} {h : Heap} {C : Addr} {bmB : List Value} {newId : String} (X : K.In h) (q : excIn K C bmB newId = true) : ∃ bm N nm qn bs hdct sn sub ab col dd k0 k1 k2 k3 k5 mN,
    h.get? C = some (excClassObj nm qn C N bs bm hdct sn sub ab col dd k0 k1 k2 k3 k5 newId) ∧ h.Ns N mN ∧ mN "__init__" = none ∧ OwnTail h bmB bm := by
  unfold excIn at q
  split at q
  · rename_i dd cd sl ho
    split at q
    · rename_i C' bm k0 k1 k2 k3 n k5 hm hs
      simp only [Bool.and_eq_true, beq_iff_eq, Bool.not_eq_true'] at q
      obtain ⟨⟨⟨⟨⟨rfl, rfl⟩, hdel⟩, ht⟩, hok⟩, hni⟩ := q
      obtain ⟨nm, bs, mro, ns, qn, hd, sn, sub, ab, col, del⟩ := cd
      dsimp only at hm hdel hok hni
      subst hm hdel
      have hsl : sl = #[k0, k1, k2, k3, some (.builtin n), k5] := by
        obtain ⟨l⟩ := sl
        simp only at hs
        rw [hs]
      subst hsl
      exact ⟨bm, ns, nm, qn, bs, hd, sn, sub, ab, col, dd, k0, k1, k2, k3, k5, _, X _ _ ho, .of_isNs (isNs_of_in X hok), nsMap_none_of_in X hok hni, tail_of_in X ht⟩
    · cases q
  · cases q
section
variable {prog : Program} {w : World} {A : Around} {E : Value → Shared → Prop} {s : Shared} {env : Env}
variable {nm q : Str} {C N : Addr} {bs bm bmB : List Value} {hdct : Bool} {sn : List Str} {sub : List Value} {ab : Bool} {col : Option Bool} {dd : Option Addr} {k0 k1 k2 k3 k5 : Option Value} {newId : String}
theorem raise_stmt {x : Sem Value} {Q : Flow → Shared → Prop} (hbase : bm.contains (.type "BaseException") = true)
    (h : wpAny (model prog w) A x (fun v s₁ => ∃ e t, v = .ref e ∧ s₁.heap.get? C = some (excClassObj nm q C N bs bm hdct sn sub ab col dd k0 k1 k2 k3 k5 newId) ∧
      s₁.heap.get? e = some { cls := .ref C, data := .fields #[.ref t, .none, .none, .none, .bool false, .none] } ∧ Apart A.handled e s₁.heap ∧ E (.ref e) { s₁ with heap := raisedH A.handled e s₁.heap }) E s) :
    wpAny (model prog w) A (raiseStmt env (some x) none) Q E s := by
  have hcB : (Value.ref C :: bm).contains (.type "BaseException") = true := by rw [List.contains_cons, hbase, Bool.or_true]
  unfold raiseStmt
  refine wpAny_bind (wpAny_mono h (fun v s₁ h₁ => ?_) fun _ _ x => x)
  obtain ⟨e, t, rfl, hC, he, ap, hE⟩ := h₁
  obtain ⟨hp, g, d, tk, os⟩ := s₁
  repeat (first | with_reducible refine wpAny_loadPart_at he ?_ | with_reducible refine wpAny_loadPart_at hC ?_ | (with_reducible refine wpAny_isSubtype_exc hC ?_; rw [hcB]) | wp_step)
  exact raise_any ap he rfl (by simp) hE
end
section
variable {X : Fx} {m : Loc} {σ : MHeap} {K : FlowM → Loc → MHeap → Prop} {KE : Value → Loc → MHeap → Prop}
theorem r1_Raise {id : Str} {np cpos pos : Pos} {args : List Expr} {C : Addr} {bmB : List Value} {B newId initId : String} (F : ExcBaseFacts B newId initId bmB) (hb : bmB.contains (.type "BaseException") = true) (q : excIn X.C.K C bmB newId = true) (ha : args.all noStar = true)
    (hn : ∀ K : MV → MHeap → Prop, K (.raw (.ref C)) σ → EvE X m σ (.Name id np) K (fun x σ' => KE x m σ')) (h : EvL X m σ cpos args (fun vs σ₁ => vs.length ≤ 1000 ∧ KE (.ref C) m σ₁) (fun x σ' => KE x m σ')) :
    Run1 X m σ (.Raise (some (.Call (.Name id np) args [] cpos)) none pos) K KE := fun s S _ Q E qq er => by
  rw [arm_exec_Raise]
  simp only [evalOpt, Option.map]
  obtain ⟨bm, N, nm, qn, bs, hdct, sn, sub, ab, col, dd, k0, k1, k2, k3, k5, mN, hC, hN, hni, TL⟩ := exc_cls S.K q
  refine wpAny_bind (wpAny_standAt (raise_stmt (C := C) (nm := nm) (q := qn) (N := N) (bs := bs) (bm := bm) (hdct := hdct) (sn := sn) (sub := sub) (ab := ab) (col := col) (dd := dd) (k0 := k0) (k1 := k1) (k2 := k2) (k3 := k3) (k5 := k5) (newId := newId) (TL.hasType hb) (wpAny_bind (wpAny_mono (wpAny_Call_ofName (Q := fun v s₃ => ∃ e t, v = .ref e ∧ s₃.heap.get? C = some (excClassObj nm qn C N bs bm hdct sn sub ab col dd k0 k1 k2 k3 k5 newId) ∧
      s₃.heap.get? e = some { cls := .ref C, data := .fields #[.ref t, .none, .none, .none, .bool false, .none] } ∧ Apart X.A.handled e s₃.heap ∧ E (.ref e) { s₃ with heap := raisedH X.A.handled e s₃.heap }) (hn (fun v σ' => v = .raw (.ref C) ∧ σ' = σ) ⟨rfl, rfl⟩ s S trivial _ E (fun f v σ₁ s₁ h₁ S₁ T₁ r₁ => ?_) (er.er m))) (fun v s₃ h₃ => wpAny_bind (wpAny_standAt (wpAny_pure h₃))) fun _ _ x => x))))
  obtain ⟨rfl, rfl⟩ := h₁
  obtain rfl := VR.raw r₁
  unfold callWith
  have er1 := (er.er m).after T₁
  refine wpAny_bind (wpAny_holding (wpAny_mono (evalArgs_any (kws := []) (Q := fun a s₂ => a.kw = [] ∧ ∃ vs σ₂, SmF X m σ₂ s₂ ∧ Tr X.fs [] σ₁ s₁.heap σ₂ s₂.heap ∧ a.pos.length ≤ 1000 ∧ KE (.ref C) m σ₂ ∧ VRs s₂.heap vs a.pos) ha rfl (h s₁ S₁ trivial _ E (fun vals vs σ₂ s₂ h₂ S₂ T₂ r₂ => wpAny_evalAll_nil ⟨rfl, vs, σ₂, S₂, T₂, by show vals.length ≤ 1000; rw [r₂.length]; exact h₂.1, h₂.2, r₂⟩) er1)) (fun a s₂ h₂ => wpAny_bind (wpAny_standAt ?_)) fun _ _ x => x))
  obtain ⟨apos, akw⟩ := a
  obtain ⟨hkw, vs, σ₂, S₂, T₂, hlen, ke, r₂⟩ := h₂
  obtain rfl : akw = [] := hkw
  obtain ⟨bm', N', nm', qn', bs', hdct', sn', sub', ab', col', dd', k0', k1', k2', k3', k5', mN', hC', hN', hni', TL'⟩ := exc_cls S₂.K q
  have same : s₂.heap.get? C = some (excClassObj nm qn C N bs bm hdct sn sub ab col dd k0 k1 k2 k3 k5 newId) := by
    obtain ⟨o, ho⟩ : ∃ o, X.C.K.lookup C = some o := by
      unfold excIn at q
      split at q
      · rename_i z; exact ⟨_, z⟩
      · cases q
    have h1 := S.K _ _ ho
    rw [hC] at h1; cases h1
    exact S₂.K _ _ ho
  have sp := star_plain (pos := cpos) (env := X.env) ha
  have Sm := fun (h' : Heap) (e : Addr) (hm : Heap.MadeExcOf s₂.heap h' e (.ref C) apos) => S₂.raised (tk := s₂.toks) hm
  have Ap := fun (h' : Heap) (e : Addr) (hm : Heap.MadeExcOf s₂.heap h' e (.ref C) apos) => (HOk.apart S₂.hnd hm.keeps hm.new : Apart X.hd e h')
  have th := T₁.trans T₂
  have fin : ∀ (h' : Heap) (e : Addr), Heap.MadeExcOf s₂.heap h' e (.ref C) apos → E (.ref e) { s₂ with heap := raisedH X.A.handled e h' } := fun h' e hm => by
    obtain ⟨S', T', x'⟩ := Sm h' e hm
    exact er _ _ m σ₂ _ ke S' ((th.trans T').own) (x'.start th.there)
  obtain ⟨hp, g, d, tk, os⟩ := s₂
  simp only [sp]
  refine wpAny_bind (wpAny_keeperOf_exc same ?_)
  refine wpAny_bind (wpAny_call_exc_subT (hrest := by show apos.length ≤ _; rw [sizeLine_eq]; have : apos.length ≤ 1000 := hlen; omega) F TL' hC' hN' hni' fun h' e hm => wpAny_bind (wpAny_holding (wpAny_point (wpAny_pure ?_))))
  obtain ⟨t, ht, _, _⟩ := hm.there
  exact ⟨e, t, rfl, hm.keeps _ _ same, ht, Ap h' e hm, fin h' e hm⟩
end
end Mine
namespace Mine
section
variable {X : Fx} {m : Loc} {σ : MHeap}
theorem RunE.forget {α β : Type} {R : Heap → β → α → Prop} {pre : Heap → Prop} {t : Sem α} {K : β → MHeap → Prop} {KE : Value → MHeap → Prop} {m₁ : Loc} (hs : m₁ <:+ m) (h : RunE X m₁ σ R pre t K KE) : RunE X m σ R pre t K KE :=
  fun s S p Q E q e => h s (S.forget hs) p Q E
    (fun a b σ' s' k S' T r => q a b σ' s' k { toSm := S'.toSm, ok := S'.ok, frame := FrameR.move S T, sepo := S'.sepo, ownc := S'.ownc } T r)
    (fun ev x σ' s' k S' T r => e ev x σ' s' k { toSm := S'.toSm, ok := S'.ok, frame := FrameR.move S T, sepo := S'.sepo, ownc := S'.ownc } T r)
end
end Mine
namespace Mine
theorem CompOk.two {X : Fx} {m : Loc} {scope : Scope} {x y z : Str} {v u : MV} {c d : Addr} (clos : closureFor scope X.env = pure [(y, c), (z, d)]) (hk : scope.kind = .function) (hn : scope.names.all (fun p => !(p.2 == .cell) && (!(p.2 == .local) || scope.names.lookup p.1 == some .local)) = true)
    (hx : scope.names.lookup x = some .local) (okx : okName x = true) (hc : X.env.cells.lookup y = some c) (hd : X.env.cells.lookup z = some d) (hcd : c ≠ d) (hm : (y, v) ∈ m) (hm2 : (z, u) ∈ m) (oky : (okName y && okName z) = true) (hxy : y ≠ x ∧ z ≠ x ∧ z ≠ y)
    (hy : (compEnvC scope [(y, c), (z, d)] 0 X.env).kindOf y = some .cell) (hz : (compEnvC scope [(y, c), (z, d)] 0 X.env).kindOf z = some .cell) (hla : (compEnvC scope [(y, c), (z, d)] 0 X.env).scope.names.all (fun p => !(p.2 == .cell) || (p.1 == y || p.1 == z)) = true) (hyo : X.env.kindOf y = some .cell) (hzo : X.env.kindOf z = some .cell) : CompOk X m scope [(y, c), (z, d)] x [(y, v), (z, u)] where
  clos := clos
  cell := fun p hp q => by
    have := List.all_eq_true.mp hn p hp
    rw [q] at this; simp at this
  kind := hk
  names := fun p hp q => by
    have := List.all_eq_true.mp hn p hp
    rw [q] at this
    have := (Bool.and_eq_true _ _ ▸ this).2
    simpa using this
  hx := hx
  okx := okx
  nd := by simpa using hcd
  sub := fun a ha => by
    simp at ha
    rcases ha with rfl | rfl
    · exact List.mem_map.mpr ⟨(y, a), mem_of_lookup_some hc, rfl⟩
    · exact List.mem_map.mpr ⟨(z, a), mem_of_lookup_some hd, rfl⟩
  fv := fun p w hp => by
    rw [Bool.and_eq_true] at oky
    simp at hp
    rcases hp with ⟨rfl, rfl⟩ | ⟨rfl, rfl⟩
    · exact ⟨hxy.1, hm, oky.1, .inl hy, .inl hyo, by rw [hc]; simp⟩
    · refine ⟨hxy.2.1, hm2, oky.2, .inl hz, .inl hzo, ?_⟩
      have e : (p == y) = false := by simpa using hxy.2.2
      rw [hd, List.lookup_cons, e]; simp
  mcnd := by simpa using Ne.symm hxy.2.2
  laid := fun p hp => by
    have := List.all_eq_true.mp hla _ (lookup_mem' hp)
    simp at this
    rcases this with rfl | rfl
    · exact ⟨c, by simp, hc, hyo⟩
    · have e : (p == y) = false := by simpa using hxy.2.2
      exact ⟨d, by rw [List.lookup_cons, e]; simp, hd, hzo⟩
section
variable {X : Fx} {m : Loc} {σ : MHeap} {KE : Value → MHeap → Prop}
theorem Room.u64 {A : Around} {n : Nat} (hr : Room A n) : A.units + 64 < cLine := by
  have := hr.2
  have : cLine = 9900 := rfl
  omega
theorem o_ne_ints {a b : Addr} {ns ms : List Int} {n : Nat} {K} (hr : Room X.A n) (hl : σ.L a = some (ns.map .int)) (hl' : σ.L b = some (ms.map .int)) (h : K (.bool (!decide (ns = ms))) σ) : Op2 X m σ VR (compareOp .NotEq) (.ref a) (.ref b) K KE := fun v u s S p Q E q e => by
  obtain rfl := VR.ref p.1
  obtain rfl := VR.ref p.2
  obtain ⟨vs, n, hg, r, il, ty, hn⟩ := S.list hl
  obtain ⟨us, n', hg', r', il', ty', hn'⟩ := S.list hl'
  exact ne_intsK (vs := vs.toList) (us := us.toList) il (ints_are r) il' (ints_are r') hr.u64 (q _ (.bool (!decide (ns = ms))) σ _ h (S.tok _) Tr.refl VR.ofBool)
theorem o_eq_ints {a b : Addr} {ns ms : List Int} {n : Nat} {K} (hr : Room X.A n) (hl : σ.L a = some (ns.map .int)) (hl' : σ.L b = some (ms.map .int)) (h : K (.bool (decide (ns = ms))) σ) : Op2 X m σ VR (compareOp .Eq) (.ref a) (.ref b) K KE := fun v u s S p Q E q e => by
  obtain rfl := VR.ref p.1
  obtain rfl := VR.ref p.2
  obtain ⟨vs, n, hg, r, il, ty, hn⟩ := S.list hl
  obtain ⟨us, n', hg', r', il', ty', hn'⟩ := S.list hl'
  exact eq_intsK (vs := vs.toList) (us := us.toList) il (ints_are r) il' (ints_are r') hr.u64 (q _ (.bool (decide (ns = ms))) σ _ h (S.tok _) Tr.refl VR.ofBool)
end
end Mine
namespace Mine
section
variable {X : Fx} {m : Loc} {σ : MHeap} {KE : Value → MHeap → Prop}
theorem o_notin_list {i : Int} {a : Addr} {ns : List Int} {K} (hl : σ.L a = some (ns.map .int)) (h : K (.bool (!decide (i ∈ ns))) σ) : Op2 X m σ VR (compareOp .NotIn) (.int i) (.ref a) K KE := fun v u s S p Q E q e => by
  obtain rfl := VR.ref p.2
  obtain ⟨t, rfl⟩ := VR.int p.1
  obtain ⟨vs, n, hg, r, il, ty, hn⟩ := S.list hl
  refine SeqRoads2.notIn_list (iEq i) (fun y hy => ?_) hg ?_
  · obtain ⟨j, u, rfl⟩ := all_ints r y (by simpa using hy)
    exact MeetsSeq.EqGives.int j i u t
  · have := any_ints (i := i) r
    rw [Array.any_toList] at this
    rw [this]
    exact q _ (.bool (!decide (i ∈ ns))) σ _ h (S.tok _) Tr.refl VR.ofBool
theorem cv_abs {a : Int} {K} (h : K (.int (if a < 0 then -a else a)) σ) : CallV X m σ (.builtin "abs") [.int a] [] K KE := fun vals kw s S p Q E q e => by
  obtain ⟨v, rfl, hv⟩ := VRs.one p.1
  obtain ⟨t, rfl⟩ := VR.int hv
  obtain rfl := KVs.no p.2
  exact call_abs_int fun u tk => q _ (.int (if a < 0 then -a else a)) σ _ h (S.tok _) Tr.refl VR.ofInt
theorem o_pow2 {b : Int} {K} (h0 : 0 ≤ b) (h1 : b ≤ 8) (h : K (.int (2 ^ b.toNat)) σ) : Op2 X m σ VR (binaryOp .Pow) (.int 2) (.int b) K KE := op2_int (fun s t u Q E S q => by
  by_cases z : b = 0
  · subst z
    refine AutoIntOps.pow_0 (by decide) (by decide) ?_
    exact q _ _
  · refine AutoIntOps.pow_4 h0 (by simpa using z) (by decide) (by decide) ?_ ?_
    · have : b = 1 ∨ b = 2 ∨ b = 3 ∨ b = 4 ∨ b = 5 ∨ b = 6 ∨ b = 7 ∨ b = 8 := by omega
      rcases this with rfl | rfl | rfl | rfl | rfl | rfl | rfl | rfl <;> decide
    · exact q _ _) h
theorem o_eqNI {b : Int} {K} (h : K (.bool false) σ) : Op2 X m σ VR (compareOp .Eq) .none (.int b) K KE := fun v u s S p Q E q e => by
  obtain rfl := p.1.none
  obtain ⟨t, rfl⟩ := VR.int p.2
  exact EqNone.eq_none_int (q _ (.bool false) σ s h S Tr.refl VR.ofBool)
theorem o_eqIS {a : Int} {b : Str} {K} (h : K (.bool false) σ) : Op2 X m σ VR (compareOp .Eq) (.int a) (.str b) K KE := fun v u s S p Q E q e => by
  obtain ⟨t, rfl⟩ := VR.int p.1
  obtain ⟨t', rfl⟩ := VR.str p.2
  exact EqMixed.eq_int_str (q _ (.bool false) σ s h S Tr.refl VR.ofBool)
theorem o_eqSS {a b : Str} {K} (h : K (.bool (a == b)) σ) : Op2 X m σ VR (compareOp .Eq) (.str a) (.str b) K KE := fun v u s S p Q E q e => by
  obtain ⟨t, rfl⟩ := VR.str p.1
  obtain ⟨t', rfl⟩ := VR.str p.2
  exact PyProof.Rows.eq_str (q _ (.bool (a == b)) σ s h S Tr.refl VR.ofBool)
end
section
variable {X : Fx} {m : Loc} {σ : MHeap} {K : FlowM → Loc → MHeap → Prop} {KE : Value → Loc → MHeap → Prop}
noncomputable def EnSt (I li a : Addr) (i : Nat) (h : Heap) : Prop := (∃ old, IsEnum h I li (i : Int) old) ∧ h.IsListIter li a i
theorem enum_core {ts : List Expr} {cx : Nat} {tp : Pos} {b o : List Stmt} {I li a : Addr} (J : Nat → Loc → MHeap → Prop) (N : Nat) (hh : X.A.handled = none) (hne : I ≠ li) (hN : ∀ i m' σ', J i m' σ' → i ≤ N)
    (turn : ∀ i m' σ', J i m' σ' → ∃ l, σ'.L a = some l ∧ (∀ v, l[i]? = some v → Turn X (.Tuple ts cx tp) b i J K KE m' σ' (.tup [.int i, v])) ∧ (l[i]? = none → RunS X m' σ' o K KE))
    {s₀ s : Shared} {m₀ : Loc} {σ₀ : MHeap} (S₀ : SmF X m₀ σ₀ s₀) (hI0 : s₀.heap.get? I = none) (hL0 : s₀.heap.get? li = none) (S : SmF X m σ s) (T : Tr X.fs X.own σ₀ s₀.heap σ s.heap) (h : J 0 m σ) (hst : EnSt I li a 0 s.heap)
    {Q : Flow → Shared → Prop} {E : Value → Shared → Prop} (q : OkL X σ₀ s₀.heap FR K Q) (e : ErL X σ₀ s₀.heap KE E) :
    codeAny X.C.M X.A (.forLoop (.Tuple ts cx tp) (.ref I) b o X.env) (fun r s' => match r with | .ok f => Q f s' | .error e => cameBackBy X.C.M X.A X.env E e s') s := by
  refine codeAny_forLoop_any (fun n s' => ∃ i m' σ', n = N + 1 - i ∧ J i m' σ' ∧ SmF X m' σ' s' ∧ Tr X.fs X.own σ₀ s₀.heap σ' s'.heap ∧ EnSt I li a i s'.heap) ?_ (N + 1) ⟨0, m, σ, rfl, h, S, T, hst⟩
  rintro n s' ⟨i, m', σ', rfl, hJ, S', T', hst'⟩
  have er : ErL X σ₀ s₀.heap KE (notedBy X.C.M X.A X.env (fun e' s'' => cameBackBy X.C.M X.A X.env E e' s'')) := fun ev x m₁ σ₁ s₁ k S₁ T₁ hx => er_loop S₀ e k S₁ T₁ hx
  obtain ⟨⟨old, he⟩, hi⟩ := hst'
  obtain ⟨oi, hoi, hci, hdi⟩ := id hi
  have fI : ∀ b, (b = I ∨ b = li) → s₀.heap.get? b = none ∧ ∀ o, s'.heap.get? b = some o → ∃ vs, o.data = .fields vs := fun b hb => by
    rcases hb with rfl | rfl
    · exact ⟨hI0, fun o z => by rw [he] at z; cases z; exact ⟨_, rfl⟩⟩
    · exact ⟨hL0, fun o z => by rw [hoi] at z; cases z; exact ⟨_, hdi⟩⟩
  have stay : ∀ {m₁ : Loc} {σ₁ σ₂ : MHeap} {s₁ s₂ : Shared}, SmF X m₁ σ₁ s₁ → Tr X.fs X.own σ₁ s₁.heap σ₂ s₂.heap → EnSt I li a (i + 1) s₁.heap → EnSt I li a (i + 1) s₂.heap := fun {m₁ σ₁ σ₂ s₁ s₂} S₁ T₁ st => by
    obtain ⟨⟨old, he⟩, oi, hoi, hci, hdi⟩ := st
    exact ⟨⟨old, S₁.fxL T₁ _ _ he (.inr ⟨_, rfl⟩)⟩, oi, S₁.fxL T₁ _ _ hoi (.inr ⟨_, hdi⟩), hci, hdi⟩
  obtain ⟨l, hl, hit, hd⟩ := turn i m' σ' hJ
  obtain ⟨vs, n, ho, r, il, ty, _⟩ := S'.list hl
  cases hv : l[i]? with
  | some v =>
    obtain ⟨u, hu, ru⟩ := r.get hv
    refine wpAny_pyNext_enum_item he hi il (by rw [← Array.getElem?_toList]; exact hu) hne fun h₁ ho₁ hi₁ ht₁ hz₁ hk₁ => ?_
    refine wpAny_letOwnedTupleGo_enum (s := { s' with heap := h₁, toks := s'.toks + 1 }) ho₁ fun h₂ he₂ hs₂ => ?_
    have kk : ∀ b o, s'.heap.get? b = some o → ¬ (b = I ∨ b = li) → h₂.get? b = some o := fun b o z nb => hs₂.extBut b o (fun y => nb (.inl y)) (hk₁ b o (fun y => nb (.inl y)) (fun y => nb (.inr y)) z)
    have ht₂ : h₂.get? s'.heap.objs.size = some { cls := .type "tuple", data := .seq #[.int i s'.toks, u] } := hs₂.extBut _ _ (fun y => by have := Heap.lt_size he; rw [← y] at this; exact absurd this (Nat.lt_irrefl _)) ht₁
    have hi₂ : h₂.IsListIter li a (i + 1) := by
      obtain ⟨o, y, r⟩ := hi₁
      exact ⟨o, hs₂.extBut _ _ (Ne.symm hne) y, r⟩
    obtain ⟨S₁, T₁⟩ := exc_turn (tk := s'.toks + 1) (h' := h₂) S₀ S₀.ownc T' S' (bad := fun b => b = I ∨ b = li) fI (fun b o z nb _ => kk b o z nb) (fun b o z nb => ⟨o.slots, kk b o z nb⟩)
    have st₁ : EnSt I li a (i + 1) h₂ := ⟨⟨u, he₂⟩, hi₂⟩
    have ru₂ : VR h₂ v u := ru.moveT fun b o z f => kk b o z fun nb => by
      obtain ⟨_, y⟩ := fI b nb
      obtain ⟨w, hw⟩ := y o z
      obtain ⟨_, w', k, y⟩ := f; rw [hw] at y; cases y
    have hv₁ : VR h₂ (.tup [.int i, v]) (.ref s'.heap.objs.size) := by
      unfold VR
      exact ⟨_, _, rfl, ⟨_, ht₂, rfl, _, rfl⟩, VRs.cons VR.ofInt (VRs.cons ru₂ VRs.nil)⟩
    refine hit v hv _ _ S₁ hv₁ _ _ (fun _ _ m₂ σ₂ s₂ k₂ S₂ T₂ _ => ?_) (er.after T₁)
    have st₂ := stay S₁ T₂ st₁
    have T₂' := T₁.trans T₂
    refine k₂ s₂ S₂ trivial _ _ (fun f fm m₃ σ₃ s₃ k₃ S₃ T₃ r => ?_) (er.after T₂')
    have T₃' := T₂'.trans T₃
    have st₃ := stay S₂ T₃ st₂
    have lt : ∀ k, k = i + 1 → i ≤ N → k ≤ N → N + 1 - k < N + 1 - i := fun k a b c => by omega
    cases fm with
    | next =>
      have : f = .next := r
      subst this
      exact ⟨_, lt _ rfl (hN _ _ _ hJ) (hN _ _ _ k₃), i + 1, m₃, σ₃, rfl, k₃, S₃, T₃', st₃⟩
    | cont =>
      have : f = .cont := r
      subst this
      exact ⟨_, lt _ rfl (hN _ _ _ hJ) (hN _ _ _ k₃), i + 1, m₃, σ₃, rfl, k₃, S₃, T₃', st₃⟩
    | brk =>
      have : f = .brk := r
      subst this
      exact q _ .next m₃ σ₃ s₃ k₃ S₃ T₃' rfl
    | ret w =>
      obtain ⟨u, rfl, r⟩ : ∃ u, f = .ret u ∧ VR s₃.heap w u := r
      exact q _ (.ret w) m₃ σ₃ s₃ k₃ S₃ T₃' ⟨u, rfl, r⟩
  | none =>
    refine wpAny_pyNext_enum_end hh he hi il (by rw [← Array.getElem?_toList, List.getElem?_eq_none]; rw [r.length]; exact List.getElem?_eq_none_iff.mp hv) fun h₁ hs₁ => ?_
    obtain ⟨S₁, T₁⟩ := exc_turn (tk := s'.toks) (h' := h₁) S₀ S₀.ownc T' S' (bad := fun b => b = I ∨ b = li) fI (fun b o z nb _ => hs₁ b o (fun y => nb (.inr y)) z) (fun b o z nb => ⟨o.slots, hs₁ b o (fun y => nb (.inr y)) z⟩)
    exact hd hv _ S₁ trivial _ _ (q.after T₁) (er.after T₁)
theorem r1_For_enum {ts : List Expr} {cx : Nat} {tp pos np p : Pos} {id : Str} {arg : Expr} {b o : List Stmt} (J : Addr → Nat → Loc → MHeap → Prop) (N : Nat) (hh : X.A.handled = none) (hs : ∀ x, foldedSetIterable (.Call (.Name id np) [arg] [] pos) X.env x = pure x) (ha : noStar arg = true) (hst : ∀ x, starEach [arg] X.env = x → True)
    (h : EvE X m σ (.Name id np) (fun fm σ₀ => fm = .raw (.type "enumerate") ∧ EvE X m σ₀ arg (fun v σ₁ => ∃ a, v = .ref a ∧ J a 0 m σ₁ ∧ (∀ i m' σ', J a i m' σ' → i ≤ N) ∧
      ∀ i m' σ', J a i m' σ' → ∃ l, σ'.L a = some l ∧ (∀ v, l[i]? = some v → Turn X (.Tuple ts cx tp) b i (J a) K KE m' σ' (.tup [.int i, v])) ∧ (l[i]? = none → RunS X m' σ' o K KE)) (fun x σ' => KE x m σ')) (fun x σ' => KE x m σ')) :
    Run1 X m σ (.For (.Tuple ts cx tp) (.Call (.Name id np) [arg] [] pos) b o p) K KE := fun s₀ S₀ _ Q E q e => by
  have ha' : [arg].all noStar = true := by simp [ha]
  refine wpAny_For (wpAny_Call_Name_kw (h s₀ S₀ trivial _ E (fun fv fm σ₁ s₁ h₁ S₁ T₁ r₁ => ?_) (e.er m))) hs
  obtain ⟨rfl, h₁⟩ := h₁
  obtain rfl := VR.raw r₁
  have hl : EvL X m σ₁ pos [arg] (fun vs σ₂ => ∃ a, vs = [.ref a] ∧ J a 0 m σ₂ ∧ (∀ i m' σ', J a i m' σ' → i ≤ N) ∧
      ∀ i m' σ', J a i m' σ' → ∃ l, σ'.L a = some l ∧ (∀ v, l[i]? = some v → Turn X (.Tuple ts cx tp) b i (J a) K KE m' σ' (.tup [.int i, v])) ∧ (l[i]? = none → RunS X m' σ' o K KE)) (fun x σ' => KE x m σ') := el_cons ha (h₁.mono (fun v σ' ⟨a, e, k⟩ => el_nil ⟨a, by rw [e], k⟩) fun _ _ z => z)
  refine callWith_of (P := fun hp => X.C.K.In hp) (by rw [star_plain ha']; rfl) KeepOk.type (evalArgs_any ha' rfl ?_)
  refine hl s₁ S₁ trivial _ E (fun vals vs σ₂ s₂ h₂ S₂ T₂ r₂ => ?_) ((e.er m).after T₁)
  refine wpAny_evalAll_nil ⟨S₂.K, ?_⟩
  obtain ⟨a, rfl, hJ, hN, turn⟩ := h₂
  obtain ⟨v, rfl, hv⟩ := VRs.one r₂
  obtain rfl := VR.ref hv
  obtain ⟨l, hl, _⟩ := turn 0 m σ₂ hJ
  obtain ⟨vs, n, ho, r, il, ty, _⟩ := S₂.list hl
  refine call_enumerate_list il fun h' he hi hz hk => ?_
  refine wpAny_pyIter_enum he ?_
  have T2 : Tr X.fs X.own σ s₀.heap σ₂ s₂.heap := (T₁.trans T₂).own
  obtain ⟨S₃, T₃⟩ := exc_turn (own := X.own) (h' := h') (tk := s₂.toks) S₀ S₀.ownc T2 S₂ (bad := fun _ => False) (fun b q => q.elim) (fun b o z _ _ => hk b o z) (fun b o z _ => ⟨o.slots, hk b o z⟩)
  have fr : ∀ b, s₂.heap.objs.size ≤ b → s₀.heap.get? b = none := fun b hb => by
    cases z : s₀.heap.get? b with
    | none => rfl
    | some o =>
      obtain ⟨o', y⟩ := T2.there b o z
      exact absurd (Heap.lt_size y) (Nat.not_lt.mpr hb)
  exact enum_core (J a) N hh (Nat.succ_ne_self _) hN turn S₀ (fr _ (Nat.le_succ _)) (fr _ (Nat.le_refl _)) S₃ T₃ hJ ⟨⟨_, he⟩, hi⟩ q e
theorem r1_For_listX {t it : Expr} {b o : List Stmt} {p : Pos} (J : Addr → Nat → Loc → MHeap → Prop) (N : Nat) (hs : ∀ x, foldedSetIterable it X.env x = pure x)
    (h : EvE X m σ it (fun v σ₁ => ∃ a, v = .ref a ∧ J a 0 m σ₁ ∧ (∀ i m' σ', J a i m' σ' → i ≤ N) ∧
      ∀ i m' σ', J a i m' σ' → ∃ l, σ'.L a = some l ∧ (∀ v, l[i]? = some v → Turn X t b i (J a) K KE m' σ' v) ∧ (l[i]? = none → RunS X m' σ' o K KE)) (fun x σ' => KE x m σ')) :
    Run1 X m σ (.For t it b o p) K KE := fun s S _ Q E q e => by
  refine wpAny_For (h s S trivial _ E (fun v mv σ₁ s₁ h₁ S₁ T₁ r₁ => ?_) (e.er m)) hs
  obtain ⟨a, rfl, hJ, hN, turn⟩ := h₁
  obtain rfl := VR.ref r₁
  obtain ⟨l₀, hl₀, _⟩ := turn 0 m σ₁ hJ
  obtain ⟨vs, n, ho, r, il, ty, _⟩ := S₁.list hl₀
  refine wpAny_pyIter_list il ?_
  obtain ⟨S₂, T₂⟩ := S₁.push (o := { cls := .type "list_iterator", data := .fields #[.ref a, .int 0 0] }) (tk := s₁.toks) rfl SameOff.refl (AtD.none S₁.objs S₁.fresh.1)
  have T0 : Tr X.fs X.own σ s.heap σ₁ s₁.heap := T₁.own
  refine for_core (t := t) (b := b) (o := o) (St := fun i h => h.IsListIter s₁.heap.objs.size a i) (J a) N hst_list hN (fun i m' σ' hJ' => ?_) S (by
      cases z : s.heap.get? s₁.heap.objs.size with
      | none => rfl
      | some o => obtain ⟨o', y⟩ := T₁.there _ o z; rw [S₁.fresh.1] at y; cases y) S₂ (T0.trans T₂.own) hJ ⟨_, Heap.get?_push_size _ rfl, rfl, rfl⟩ q e
  obtain ⟨l, hl, hi, hd⟩ := turn i m' σ' hJ'
  cases z : l[i]? with
  | some v =>
    refine .inl ⟨v, fun s' S' st Q' E' k => ?_, hi v z⟩
    obtain ⟨vs', n', ho', r', il', ty', hn'⟩ := S'.list hl
    obtain ⟨u, hu, ru⟩ := r'.get z
    exact wpAny_pyNext_list_item st il' (by rw [← Array.getElem?_toList]; exact hu) fun h' st' hs' => k u h' s'.toks ru st' hs'
  | none =>
    refine .inr ⟨fun s' S' st ap Q' E' k => ?_, hd z⟩
    obtain ⟨vs', n', ho', r', il', ty', hn'⟩ := S'.list hl
    refine next_list_end ap st il' ?_ fun h' hs' => k h' s'.toks hs'
    rw [← Array.getElem?_toList, List.getElem?_eq_none]
    rw [r'.length]; exact List.getElem?_eq_none_iff.mp z
end
end Mine
namespace Mine
theorem top_cells {C : Cx} {A : Around} {s : Shared} {a : Addr} {fd : FuncData} {body : List Stmt} {vals : List Value} {binds : List (Str × Value)} {m₀ : Loc} (F : FnOk C a fd body) (hg : C.g = s.heap) (ho : C.os = s.os) (hgens : s.gens = #[]) (hA : A.frames = some []) (hh : A.handled = none) (hroom : A.depth < recursionLimit)
    {ps : List Str} (hps : m₀.map (·.1) = ps) (hc : ∀ L, cellChk fd ps L = true)
    (hbind : bindArgs fd ⟨vals, []⟩ = pure binds) (hm : KVs s.heap m₀ binds)
    (h : ∀ L, RunS ⟨C, A.deeper (callEnvC fd L a), [callEnvC fd L a], callEnvC fd L a⟩ m₀ MHeap.empty body (fun f _ σ' => retOf f = .bool true) (fun _ _ _ => False)) :
    ∀ R : Result → Shared → Prop, (∀ s' : Shared, (∀ b o, s.heap.get? b = some o → s'.heap.get? b = some o) → s'.os = s.os → s'.gens = #[] → R (.ok (.ret (.bool true))) s') → codeAny C.M A (.call (.ref a) ⟨vals, []⟩) R s := by
  intro R hR
  have c0 := hc s.heap.objs.size
  unfold cellChk at c0
  simp only [Bool.and_eq_true] at c0
  obtain ⟨c1, c2, c3, c4⟩ := c0
  have hK : C.K.In s.heap := hg ▸ C.hK
  have hlim : s.heap.NoLimit := hg ▸ C.hlim
  obtain ⟨o, ho', hd⟩ := F.at_
  have hkeys := hm.keys
  have ndps := nodupB_is c4
  have ndb : (binds.map (·.1)).Nodup := by rw [hkeys, hps]; exact ndps
  have chk : ∀ x ∈ ps, (fd.scope.names.lookup x = some .local ∨ (fd.scope.names.lookup x = some .cell ∧ ((cellsFrom (s.heap.objs.size + 1) fd.scope.names []).lookup x).isSome = true)) ∧ okName x = true := fun x hx => by
    have := List.all_eq_true.mp c3 x hx
    simpa using this
  refine codeAny_call_cells hroom (hK _ _ ho') hd hlim (codeRec_of hK F.code) F.body hbind F.clo (fun x hx => (chk x.1 (by rw [← hps, ← hkeys]; exact List.mem_map_of_mem hx)).1) (fun s₁ I => ?_) F.co F.gen F.kind
  obtain ⟨h₀, tk, rfl, keep⟩ := I.done
  have hkind : ∀ x, (callEnvC fd s.heap.objs.size a).kindOf x = fd.scope.names.lookup x := fun _ => rfl
  have hcells : (callEnvC fd s.heap.objs.size a).cells = cellsFrom (s.heap.objs.size + 1) fd.scope.names [] := rfl
  have fx : ∀ b o, s.heap.get? b = some o → Fixed o → h₀.get? b = some o := fun b o z _ => keep b o z
  have FR₁ : FrameR (callEnvC fd s.heap.objs.size a) m₀ h₀ := by
    refine ⟨⟨_, I.toInCall.ns, fun x v hx hk => ?_⟩, fun x v hx hk => ?_, fun x hk => ?_, fun x v hx => ?_, by rw [hps]; exact ndps⟩
    · obtain ⟨v', h1, h2⟩ := hm.lookup (by rw [hps]; exact ndps) hx
      exact ⟨v', bindL_of hk ndb h1, h2.move fx⟩
    · have hx' : x ∈ ps := by rw [← hps]; exact List.mem_map_of_mem (f := (·.1)) hx
      obtain ⟨v', h1, h2⟩ := hm.lookup (by rw [hps]; exact ndps) hx
      rcases (chk x hx').1 with z | ⟨z, y⟩
      · rw [hkind, z] at hk; rcases hk with hk | hk <;> cases hk
      · obtain ⟨c, hcc⟩ := Option.isSome_iff_exists.mp y
        exact ⟨c, v', hcc, by have := I.cell x c hcc; rwa [bindC_of (by rw [hkind]; exact z) ndb h1] at this, h2.move fx⟩
    · have := List.all_eq_true.mp c2 (x, .cell) (lookup_mem' hk)
      simp only [beq_self_eq_true, Bool.not_true, Bool.false_or] at this
      obtain ⟨c, hcc⟩ := Option.isSome_iff_exists.mp this
      exact ⟨c, _, hcc, I.cell x c hcc⟩
    · have hx' : x ∈ ps := by rw [← hps]; exact List.mem_map_of_mem (f := (·.1)) hx
      obtain ⟨z, ok⟩ := chk x hx'
      refine ⟨ok, ?_⟩
      rw [hkind]
      rcases z with z | ⟨z, _⟩
      · exact .inl z
      · exact .inr (.inl z)
  have fresh : ∀ b, s.heap.objs.size ≤ b → s.heap.get? b = none := fun b hb => by
    cases z : s.heap.get? b with
    | none => rfl
    | some o => exact absurd (Heap.lt_size z) (Nat.not_lt.mpr hb)
  have hown : ∀ b ∈ (callEnvC fd s.heap.objs.size a).cells.map (·.2), s.heap.get? b = none ∧ ∃ o, h₀.get? b = some o ∧ ¬ Fixed o := fun b hb => by
    obtain ⟨p, hp, rfl⟩ := List.mem_map.mp hb
    obtain ⟨o, ho, hd⟩ := I.cell p.1 p.2 (lookup_of_mem (nodupB_is c1) hp)
    refine ⟨fresh _ (Nat.le_of_lt (I.above p.1 p.2 hp)), o, ho, ?_⟩
    rintro (⟨_, x, n, z⟩ | ⟨x, z⟩) <;> rw [hd] at z <;> cases z
  have hoL : ∃ o, h₀.get? s.heap.objs.size = some o ∧ ¬ Fixed o := by
    obtain ⟨o, es, ep, ho, hd, _⟩ := I.toInCall.ns
    refine ⟨o, ho, ?_⟩
    rintro (⟨_, x, n, q⟩ | ⟨x, q⟩) <;> rw [hd] at q <;> cases q
  have fr0 : frs [callEnvC fd s.heap.objs.size a] = [s.heap.objs.size] := rfl
  have ow : ∀ b ∈ ownOf (callEnvC fd s.heap.objs.size a), s.heap.get? b = none ∧ ∃ o, h₀.get? b = some o ∧ ¬ Fixed o := fun b hb => by
    rcases List.mem_cons.mp hb with q | q
    · subst q; exact ⟨fresh _ (Nat.le_refl _), hoL⟩
    · exact hown b q
  have nd0 : ∀ b, ¬ MHeap.empty.Dom b := fun b d => by rcases d with d | d | d | d <;> exact d rfl
  have S₁ : SmF ⟨C, A.deeper (callEnvC fd s.heap.objs.size a), [callEnvC fd s.heap.objs.size a], callEnvC fd s.heap.objs.size a⟩ m₀ MHeap.empty { s with heap := h₀, toks := tk } := by
    refine { base := fun b o e => keep b o (hg ▸ e), sep := fun b d => (nd0 b d).elim, objs := ⟨fun _ _ _ z => (by cases z), fun _ _ z => (by cases z), fun _ _ z => (by cases z), fun _ _ z => (by cases z), fun _ => .inl rfl, fun _ _ z => (by cases z)⟩, funf := ?_, frc := fun b hb => ?_, gens := hgens, os := ho.symm, hnd := fun v hv => ?_, ok := ?_, frame := FR₁, sepo := fun b hb => ?_, ownc := fun b hb => ?_ }
    · obtain ⟨o, ho, hn⟩ := hoL
      refine ⟨by rw [show (callEnvC fd s.heap.objs.size a).scope.kind = .function from F.kind]; nofun, ⟨_, o, rfl, by rw [hg]; exact fresh _ (Nat.le_refl _), ho, fun vs q => hn (.inr ⟨vs, q⟩)⟩, trivial⟩
    · rw [fr0, List.mem_singleton] at hb; subst hb; exact ⟨nd0 _, hoL⟩
    · have : A.handled = some v := hv
      rw [hh] at this; cases this
    · refine ⟨Around.frames_deeper hA, ⟨_, [], rfl, rfl, F.gen, F.co, F.bl, F.gl⟩, F.kind, F.gl, F.bl, by show A.handled ≠ _; rw [hh]; nofun, ?_, fun z => ?_⟩
      · show (List.map _ _).Pairwise _
        rw [List.pairwise_map]
        exact I.apart
      · obtain ⟨p, hp, z⟩ := List.mem_map.mp z
        exact absurd z (Nat.ne_of_gt (I.above p.1 p.2 hp))
    · exact ⟨by show C.g.get? _ = none; rw [hg]; exact (ow b hb).1, nd0 _⟩
    · exact (ow b hb).2
  refine h _ _ S₁ trivial _ _ (fun f fm m' σ' s' k S' T r => ?_) (fun ev x m' σ' s' k S' T hx => k.elim)
  have fin : ∀ b o, s.heap.get? b = some o → s'.heap.get? b = some o := fun b o e => S'.base b o (hg ▸ e)
  cases fm with
  | next => cases k
  | brk => cases k
  | cont => cases k
  | ret v =>
    obtain ⟨u, rfl, r⟩ : ∃ u, f = .ret u ∧ VR s'.heap v u := r
    obtain rfl : v = .bool true := k
    obtain rfl := VR.bool r
    exact hR s' fin (S'.os.trans ho) S'.gens
end Mine
namespace Mine
section
variable {prog : Program} {w : World} {A : Around} {E : Value → Shared → Prop} {s : Shared}
theorem set_at' {l : Addr} {vs : Array Value} {n : Nat} {k : Int} {t : Tok} {v : Value} {Q : Unit → Shared → Prop} (ho : s.heap.get? l = some (listOf vs n)) (h0 : 0 ≤ k) (hfit : k < 2 ^ 63) (hn : k < vs.size)
    (hQ : Q () { s with heap := s.heap.update l (Obj.mapSeq (·.setIfInBounds k.toNat v)) }) : wpAny (model prog w) A (setItem (.ref l) (.int k t) v) Q E s := by
  have hl : s.heap.IsList l vs := ⟨_, ho, rfl, n, rfl⟩
  unfold setItem
  try with_reducible refine wpAny_holding ?_
  first | refine wpAny_bind (wpAny_pure ?_) | skip
  refine wpAny_bind (wpAny_sequenceKey hl.typeIs (by decide) ?_)
  refine wpAny_bind (wpAny_callSpecial?_slot (name := Str.ofString "__setitem__") hl.typeIs slot_list_setitem
    (wpAny_call_entry slot_list_setitem hl.typeIs entry_list_setitem ?_ (args_list_setitem _ _ _)))
  show wpAny _ _ (Builtin.List.listSubscript? (.int k t) >>= _) _ _ s
  refine wpAny_bind (wpAny_listSubscript_int (fitsIndex_of h0 hfit) ?_)
  clear hfit
  obtain ⟨j, rfl⟩ := Int.eq_ofNat_of_zero_le h0
  have hj : j < vs.size := by omega
  have hx' : vs[j]? = some vs[j] := Array.getElem?_eq_getElem hj
  show wpAny _ _ ((seqItemAt l j >>= fun r => pure (r.map (j, ·))) >>= _) _ _ s
  refine wpAny_bind (wpAny_bind (wpAny_seqItemAt ho rfl (wpAny_pure ?_)))
  rw [hx']
  show wpAny _ _ (setSeqItemAt l j v >>= _) _ _ s
  refine wpAny_bind (wpAny_setSeqItemAt ho rfl ?_)
  first
    | exact wpAny_bind (wpAny_pure (wpAny_pure ⟨.none, rfl, wpAny_pure hQ⟩))
    | exact wpAny_pure ⟨.none, rfl, wpAny_pure hQ⟩
end
section
variable {X : Fx} {m : Loc} {σ : MHeap} {KE : Value → MHeap → Prop}
theorem o_not {b : Bool} {K} (h : K (.bool (!b)) σ) : Op1 X m σ VR (unaryOp .Not) (.bool b) K KE := fun v s S p Q E q e => by
  obtain rfl := VR.bool p
  exact PyProof.Rows.not_of (wpAny_truthy_bool (q _ (.bool (!b)) σ s h S Tr.refl VR.ofBool))
theorem si_list {j : Nat} {a : Addr} {l : List MV} {v : MV} {K} (hl : σ.L a = some l) (hj : j < l.length) (hz : l.length ≤ 1000000) (h : K (σ.setL a (l.set j v))) : SetI X m σ (.ref a) (.int (j : Int)) v K KE := fun o i u s S p Q E q e => by
  obtain rfl := VR.ref p.1
  obtain ⟨t, rfl⟩ := VR.int p.2.1
  obtain ⟨vs, n, hg, r, il, ty, hn⟩ := S.list hl
  refine set_at' hg (by omega) (Int.lt_of_lt_of_le (show (j : Int) < 1000001 by omega) (by decide)) (by omega) ?_
  obtain ⟨n', e'⟩ := upd_list (us := vs.setIfInBounds j u) (f := fun xs => xs.setIfInBounds j u) hg rfl
  obtain ⟨S', T'⟩ := S.putL (tk := s.toks) (l' := l.set j v) hl (Heap.SameBut.update ..).extBut e' (by
    rw [Array.toList_setIfInBounds]
    exact VRs.set r p.2.2)
  exact q _ () _ _ h S' T' trivial
end
end Mine
namespace Mine
open Hd (pg stTop stIn fnBody fnScope fnParams)
noncomputable def fdOf (o : Obj) : FuncData := match o.data with | .func fd => fd | _ => default
noncomputable def Of (C : Cx) : Prop := C.K = Hd.K C.w.params
theorem fn_of {C : Cx} {a : Addr} {o : Params → Obj} {body : List Stmt} (e : ∀ P, (Hd.K P).lookup a = some (o P)) (h : ∀ P, ∃ f, (o P).data = .func f ∧ f.body = .stmts body ∧ codeIn (Hd.K P) f.code f.qualname = true ∧ f.closure = [] ∧ f.globals = mainGlobals ∧ f.builtins = builtinsNs ∧
    f.scope.isCoroutine = false ∧ f.scope.isGenerator = false ∧ f.scope.kind = .function) (hC : Of C) : FnOk C a (fdOf (o C.w.params)) body := by
  unfold Of at hC
  obtain ⟨f, h1, h2, h3, h4, h5, h6, h7, h8, h9⟩ := h C.w.params
  have e1 : fdOf (o C.w.params) = f := by unfold fdOf; rw [h1]
  rw [e1]
  exact ⟨⟨_, by rw [hC]; exact e _, h1⟩, h2, by rw [hC]; exact h3, h4, h5, h6, h7, h8, h9⟩
theorem keepO {C : Cx} (hC : Of C) {a : Addr} (e : ∀ P, keepIn (Hd.K P) (.ref a) = true) : keepIn C.K (.ref a) = true := by unfold Of at hC; rw [hC]; exact e _
noncomputable abbrev a__ahead : Addr := 28
noncomputable abbrev d__ahead (C : Cx) : FuncData := fdOf (Hd.o28_22 C.w.params)
theorem ok__ahead {C : Cx} (hC : Of C) : FnOk C a__ahead (d__ahead C) (fnBody (stTop 2)) :=
  fn_of (o := Hd.o28_22) (fun P => by kernel_rfl) (fun P => ⟨_, rfl, rfl, by kernel_rfl, rfl, rfl, rfl, by kernel_rfl, by kernel_rfl, by kernel_rfl⟩) hC
noncomputable abbrev a_heappush : Addr := 35
noncomputable abbrev d_heappush (C : Cx) : FuncData := fdOf (Hd.o35_31 C.w.params)
theorem ok_heappush {C : Cx} (hC : Of C) : FnOk C a_heappush (d_heappush C) (fnBody (stTop 3)) :=
  fn_of (o := Hd.o35_31) (fun P => by kernel_rfl) (fun P => ⟨_, rfl, rfl, by kernel_rfl, rfl, rfl, rfl, by kernel_rfl, by kernel_rfl, by kernel_rfl⟩) hC
noncomputable abbrev a_heappop : Addr := 42
noncomputable abbrev d_heappop (C : Cx) : FuncData := fdOf (Hd.o42_40 C.w.params)
theorem ok_heappop {C : Cx} (hC : Of C) : FnOk C a_heappop (d_heappop C) (fnBody (stTop 4)) :=
  fn_of (o := Hd.o42_40) (fun P => by kernel_rfl) (fun P => ⟨_, rfl, rfl, by kernel_rfl, rfl, rfl, rfl, by kernel_rfl, by kernel_rfl, by kernel_rfl⟩) hC
noncomputable abbrev a_Stream___init__ : Addr := 155
noncomputable abbrev d_Stream___init__ (C : Cx) : FuncData := fdOf (Hd.o155_181 C.w.params)
theorem ok_Stream___init__ {C : Cx} (hC : Of C) : FnOk C a_Stream___init__ (d_Stream___init__ C) (fnBody (stIn 14 0)) :=
  fn_of (o := Hd.o155_181) (fun P => by kernel_rfl) (fun P => ⟨_, rfl, rfl, by kernel_rfl, rfl, rfl, rfl, by kernel_rfl, by kernel_rfl, by kernel_rfl⟩) hC
noncomputable abbrev a_Stream_weight0 : Addr := 162
noncomputable abbrev d_Stream_weight0 (C : Cx) : FuncData := fdOf (Hd.o162_188 C.w.params)
theorem ok_Stream_weight0 {C : Cx} (hC : Of C) : FnOk C a_Stream_weight0 (d_Stream_weight0 C) (fnBody (stIn 14 1)) :=
  fn_of (o := Hd.o162_188) (fun P => by kernel_rfl) (fun P => ⟨_, rfl, rfl, by kernel_rfl, rfl, rfl, rfl, by kernel_rfl, by kernel_rfl, by kernel_rfl⟩) hC
noncomputable abbrev a_Stream_weight1 : Addr := 171
noncomputable abbrev d_Stream_weight1 (C : Cx) : FuncData := fdOf (Hd.o171_197 C.w.params)
theorem ok_Stream_weight1 {C : Cx} (hC : Of C) : FnOk C a_Stream_weight1 (d_Stream_weight1 C) (fnBody (stIn 14 2)) :=
  fn_of (o := Hd.o171_197) (fun P => by kernel_rfl) (fun P => ⟨_, rfl, rfl, by kernel_rfl, rfl, rfl, rfl, by kernel_rfl, by kernel_rfl, by kernel_rfl⟩) hC
noncomputable abbrev a_Stream_add_child : Addr := 179
noncomputable abbrev d_Stream_add_child (C : Cx) : FuncData := fdOf (Hd.o179_205 C.w.params)
theorem ok_Stream_add_child {C : Cx} (hC : Of C) : FnOk C a_Stream_add_child (d_Stream_add_child C) (fnBody (stIn 14 3)) :=
  fn_of (o := Hd.o179_205) (fun P => by kernel_rfl) (fun P => ⟨_, rfl, rfl, by kernel_rfl, rfl, rfl, rfl, by kernel_rfl, by kernel_rfl, by kernel_rfl⟩) hC
noncomputable abbrev a_Stream_add_child_exclusive : Addr := 186
noncomputable abbrev a_Stream_remove_child : Addr := 194
noncomputable abbrev a_Stream_schedule : Addr := 201
noncomputable abbrev d_Stream_schedule (C : Cx) : FuncData := fdOf (Hd.o201_227 C.w.params)
theorem ok_Stream_schedule {C : Cx} (hC : Of C) : FnOk C a_Stream_schedule (d_Stream_schedule C) (fnBody (stIn 14 6)) :=
  fn_of (o := Hd.o201_227) (fun P => by kernel_rfl) (fun P => ⟨_, rfl, rfl, by kernel_rfl, rfl, rfl, rfl, by kernel_rfl, by kernel_rfl, by kernel_rfl⟩) hC
noncomputable abbrev a_Stream___lt__ : Addr := 229
noncomputable abbrev d_Stream___lt__ (C : Cx) : FuncData := fdOf (Hd.o229_255 C.w.params)
theorem ok_Stream___lt__ {C : Cx} (hC : Of C) : FnOk C a_Stream___lt__ (d_Stream___lt__ C) (fnBody (stIn 14 10)) :=
  fn_of (o := Hd.o229_255) (fun P => by kernel_rfl) (fun P => ⟨_, rfl, rfl, by kernel_rfl, rfl, rfl, rfl, by kernel_rfl, by kernel_rfl, by kernel_rfl⟩) hC
noncomputable abbrev a_PriorityTree___init__ : Addr := 272
noncomputable abbrev d_PriorityTree___init__ (C : Cx) : FuncData := fdOf (Hd.o272_300 C.w.params)
theorem ok_PriorityTree___init__ {C : Cx} (hC : Of C) : FnOk C a_PriorityTree___init__ (d_PriorityTree___init__ C) (fnBody (stIn 15 0)) :=
  fn_of (o := Hd.o272_300) (fun P => by kernel_rfl) (fun P => ⟨_, rfl, rfl, by kernel_rfl, rfl, rfl, rfl, by kernel_rfl, by kernel_rfl, by kernel_rfl⟩) hC
noncomputable abbrev a_PriorityTree__get_or_insert_parent : Addr := 279
noncomputable abbrev d_PriorityTree__get_or_insert_parent (C : Cx) : FuncData := fdOf (Hd.o279_307 C.w.params)
theorem ok_PriorityTree__get_or_insert_parent {C : Cx} (hC : Of C) : FnOk C a_PriorityTree__get_or_insert_parent (d_PriorityTree__get_or_insert_parent C) (fnBody (stIn 15 1)) :=
  fn_of (o := Hd.o279_307) (fun P => by kernel_rfl) (fun P => ⟨_, rfl, rfl, by kernel_rfl, rfl, rfl, rfl, by kernel_rfl, by kernel_rfl, by kernel_rfl⟩) hC
noncomputable abbrev a_PriorityTree_insert_stream : Addr := 294
noncomputable abbrev d_PriorityTree_insert_stream (C : Cx) : FuncData := fdOf (Hd.o294_322 C.w.params)
theorem ok_PriorityTree_insert_stream {C : Cx} (hC : Of C) : FnOk C a_PriorityTree_insert_stream (d_PriorityTree_insert_stream C) (fnBody (stIn 15 3)) :=
  fn_of (o := Hd.o294_322) (fun P => by kernel_rfl) (fun P => ⟨_, rfl, rfl, by kernel_rfl, rfl, rfl, rfl, by kernel_rfl, by kernel_rfl, by kernel_rfl⟩) hC
noncomputable abbrev a_PriorityTree_block : Addr := 316
noncomputable abbrev d_PriorityTree_block (C : Cx) : FuncData := fdOf (Hd.o316_344 C.w.params)
theorem ok_PriorityTree_block {C : Cx} (hC : Of C) : FnOk C a_PriorityTree_block (d_PriorityTree_block C) (fnBody (stIn 15 6)) :=
  fn_of (o := Hd.o316_344) (fun P => by kernel_rfl) (fun P => ⟨_, rfl, rfl, by kernel_rfl, rfl, rfl, rfl, by kernel_rfl, by kernel_rfl, by kernel_rfl⟩) hC
noncomputable abbrev a_PriorityTree___next__ : Addr := 337
noncomputable abbrev d_PriorityTree___next__ (C : Cx) : FuncData := fdOf (Hd.o337_365 C.w.params)
theorem ok_PriorityTree___next__ {C : Cx} (hC : Of C) : FnOk C a_PriorityTree___next__ (d_PriorityTree___next__ C) (fnBody (stIn 15 9)) :=
  fn_of (o := Hd.o337_365) (fun P => by kernel_rfl) (fun P => ⟨_, rfl, rfl, by kernel_rfl, rfl, rfl, rfl, by kernel_rfl, by kernel_rfl, by kernel_rfl⟩) hC
noncomputable abbrev a_PriorityTree_next : Addr := 344
noncomputable abbrev d_PriorityTree_next (C : Cx) : FuncData := fdOf (Hd.o344_372 C.w.params)
theorem ok_PriorityTree_next {C : Cx} (hC : Of C) : FnOk C a_PriorityTree_next (d_PriorityTree_next C) (fnBody (stIn 15 10)) :=
  fn_of (o := Hd.o344_372) (fun P => by kernel_rfl) (fun P => ⟨_, rfl, rfl, by kernel_rfl, rfl, rfl, rfl, by kernel_rfl, by kernel_rfl, by kernel_rfl⟩) hC
noncomputable abbrev a__law_live : Addr := 358
noncomputable abbrev d__law_live (C : Cx) : FuncData := fdOf (Hd.o358_389 C.w.params)
theorem ok__law_live {C : Cx} (hC : Of C) : FnOk C a__law_live (d__law_live C) (fnBody (stTop 17)) :=
  fn_of (o := Hd.o358_389) (fun P => by kernel_rfl) (fun P => ⟨_, rfl, rfl, by kernel_rfl, rfl, rfl, rfl, by kernel_rfl, by kernel_rfl, by kernel_rfl⟩) hC
noncomputable abbrev a__law_shares : Addr := 363
noncomputable abbrev d__law_shares (C : Cx) : FuncData := fdOf (Hd.o363_396 C.w.params)
theorem ok__law_shares {C : Cx} (hC : Of C) : FnOk C a__law_shares (d__law_shares C) (fnBody (stTop 18)) :=
  fn_of (o := Hd.o363_396) (fun P => by kernel_rfl) (fun P => ⟨_, rfl, rfl, by kernel_rfl, rfl, rfl, rfl, by kernel_rfl, by kernel_rfl, by kernel_rfl⟩) hC
noncomputable abbrev a_law : Addr := 368
noncomputable abbrev d_law (C : Cx) : FuncData := fdOf (Hd.o368_403 C.w.params)
theorem ok_law {C : Cx} (hC : Of C) : FnOk C a_law (d_law C) (fnBody (stTop 19)) :=
  fn_of (o := Hd.o368_403) (fun P => by kernel_rfl) (fun P => ⟨_, rfl, rfl, by kernel_rfl, rfl, rfl, rfl, by kernel_rfl, by kernel_rfl, by kernel_rfl⟩) hC
noncomputable abbrev tokMax : Tok := 522
noncomputable abbrev c_DeadlockError : Addr := 65
noncomputable abbrev c_Stream : Addr := 253
noncomputable abbrev c_PriorityTree : Addr := 347
section
variable {X : Fx} {m : Loc} {σ : MHeap} {KE : Value → MHeap → Prop} {K : MV → MHeap → Prop} {p : Pos}
theorem g__ahead {C : Cx} (hC : Of C) : nsIn C.K mainGlobals "_ahead" = some (some (.ref 28)) := by unfold Of at hC; rw [hC]; kernel_rfl
theorem n__ahead (hC : Of X.C) (hk : X.env.kindOf "_ahead" = some .globalImplicit) (h : K (.raw (.ref 28)) σ) : EvE X m σ (.Name "_ahead" p) K KE := ev_glob (g__ahead hC) hk (by decide) h
theorem g_heappush {C : Cx} (hC : Of C) : nsIn C.K mainGlobals "heappush" = some (some (.ref 35)) := by unfold Of at hC; rw [hC]; kernel_rfl
theorem n_heappush (hC : Of X.C) (hk : X.env.kindOf "heappush" = some .globalImplicit) (h : K (.raw (.ref 35)) σ) : EvE X m σ (.Name "heappush" p) K KE := ev_glob (g_heappush hC) hk (by decide) h
theorem g_heappop {C : Cx} (hC : Of C) : nsIn C.K mainGlobals "heappop" = some (some (.ref 42)) := by unfold Of at hC; rw [hC]; kernel_rfl
theorem n_heappop (hC : Of X.C) (hk : X.env.kindOf "heappop" = some .globalImplicit) (h : K (.raw (.ref 42)) σ) : EvE X m σ (.Name "heappop" p) K KE := ev_glob (g_heappop hC) hk (by decide) h
theorem g_DeadlockError {C : Cx} (hC : Of C) : nsIn C.K mainGlobals "DeadlockError" = some (some (.ref 65)) := by unfold Of at hC; rw [hC]; kernel_rfl
theorem n_DeadlockError (hC : Of X.C) (hk : X.env.kindOf "DeadlockError" = some .globalImplicit) (h : K (.raw (.ref 65)) σ) : EvE X m σ (.Name "DeadlockError" p) K KE := ev_glob (g_DeadlockError hC) hk (by decide) h
theorem g_Stream {C : Cx} (hC : Of C) : nsIn C.K mainGlobals "Stream" = some (some (.ref 253)) := by unfold Of at hC; rw [hC]; kernel_rfl
theorem n_Stream (hC : Of X.C) (hk : X.env.kindOf "Stream" = some .globalImplicit) (h : K (.raw (.ref 253)) σ) : EvE X m σ (.Name "Stream" p) K KE := ev_glob (g_Stream hC) hk (by decide) h
theorem g_PriorityTree {C : Cx} (hC : Of C) : nsIn C.K mainGlobals "PriorityTree" = some (some (.ref 347)) := by unfold Of at hC; rw [hC]; kernel_rfl
theorem n_PriorityTree (hC : Of X.C) (hk : X.env.kindOf "PriorityTree" = some .globalImplicit) (h : K (.raw (.ref 347)) σ) : EvE X m σ (.Name "PriorityTree" p) K KE := ev_glob (g_PriorityTree hC) hk (by decide) h
theorem g__law_live {C : Cx} (hC : Of C) : nsIn C.K mainGlobals "_law_live" = some (some (.ref 358)) := by unfold Of at hC; rw [hC]; kernel_rfl
theorem n__law_live (hC : Of X.C) (hk : X.env.kindOf "_law_live" = some .globalImplicit) (h : K (.raw (.ref 358)) σ) : EvE X m σ (.Name "_law_live" p) K KE := ev_glob (g__law_live hC) hk (by decide) h
theorem g__law_shares {C : Cx} (hC : Of C) : nsIn C.K mainGlobals "_law_shares" = some (some (.ref 363)) := by unfold Of at hC; rw [hC]; kernel_rfl
theorem n__law_shares (hC : Of X.C) (hk : X.env.kindOf "_law_shares" = some .globalImplicit) (h : K (.raw (.ref 363)) σ) : EvE X m σ (.Name "_law_shares" p) K KE := ev_glob (g__law_shares hC) hk (by decide) h
theorem g_law {C : Cx} (hC : Of C) : nsIn C.K mainGlobals "law" = some (some (.ref 368)) := by unfold Of at hC; rw [hC]; kernel_rfl
theorem g_len {C : Cx} (hC : Of C) : nsIn C.K mainGlobals "len" = some none := by unfold Of at hC; rw [hC]; kernel_rfl
theorem n_len (hC : Of X.C) (hk : X.env.kindOf "len" = some .globalImplicit) (h : K (.raw (.builtin "len")) σ) : EvE X m σ (.Name "len" p) K KE := ev_blt (g_len hC) (by decide +kernel) (by decide) hk (by decide) h
theorem g_range {C : Cx} (hC : Of C) : nsIn C.K mainGlobals "range" = some none := by unfold Of at hC; rw [hC]; kernel_rfl
theorem n_range (hC : Of X.C) (hk : X.env.kindOf "range" = some .globalImplicit) (h : K (.raw (.type "range")) σ) : EvE X m σ (.Name "range" p) K KE := ev_blt (g_range hC) (by decide +kernel) (by decide) hk (by decide) h
theorem g_isinstance {C : Cx} (hC : Of C) : nsIn C.K mainGlobals "isinstance" = some none := by unfold Of at hC; rw [hC]; kernel_rfl
theorem n_isinstance (hC : Of X.C) (hk : X.env.kindOf "isinstance" = some .globalImplicit) (h : K (.raw (.builtin "isinstance")) σ) : EvE X m σ (.Name "isinstance" p) K KE := ev_blt (g_isinstance hC) (by decide +kernel) (by decide) hk (by decide) h
theorem g_int {C : Cx} (hC : Of C) : nsIn C.K mainGlobals "int" = some none := by unfold Of at hC; rw [hC]; kernel_rfl
theorem n_int (hC : Of X.C) (hk : X.env.kindOf "int" = some .globalImplicit) (h : K (.raw (.type "int")) σ) : EvE X m σ (.Name "int" p) K KE := ev_blt (g_int hC) (by decide +kernel) (by decide) hk (by decide) h
theorem g_IndexError {C : Cx} (hC : Of C) : nsIn C.K mainGlobals "IndexError" = some none := by unfold Of at hC; rw [hC]; kernel_rfl
theorem n_IndexError (hC : Of X.C) (hk : X.env.kindOf "IndexError" = some .globalImplicit) (h : K (.raw (.type "IndexError")) σ) : EvE X m σ (.Name "IndexError" p) K KE := ev_blt (g_IndexError hC) (by decide +kernel) (by decide) hk (by decide) h
theorem g_abs {C : Cx} (hC : Of C) : nsIn C.K mainGlobals "abs" = some none := by unfold Of at hC; rw [hC]; kernel_rfl
theorem n_abs (hC : Of X.C) (hk : X.env.kindOf "abs" = some .globalImplicit) (h : K (.raw (.builtin "abs")) σ) : EvE X m σ (.Name "abs" p) K KE := ev_blt (g_abs hC) (by decide +kernel) (by decide) hk (by decide) h
theorem g_enumerate {C : Cx} (hC : Of C) : nsIn C.K mainGlobals "enumerate" = some none := by unfold Of at hC; rw [hC]; kernel_rfl
theorem n_enumerate (hC : Of X.C) (hk : X.env.kindOf "enumerate" = some .globalImplicit) (h : K (.raw (.type "enumerate")) σ) : EvE X m σ (.Name "enumerate" p) K KE := ev_blt (g_enumerate hC) (by decide +kernel) (by decide) hk (by decide) h
end
end Mine
namespace Mine
open Hd (pg stTop stIn fnBody fnScope fnParams)
local macro_rules | `(tactic| walk_at "mem") => `(tactic| repeat (first | (with_reducible exact List.mem_cons_self) | (with_reducible refine' List.mem_cons_of_mem _ ?_)))
local macro_rules | `(tactic| walk_at "upd") => `(tactic| (first | (with_reducible exact Upd.here) | ((with_reducible refine' Upd.there ?hh); (case hh => walk_at "upd"))))
local macro_rules | `(tactic| walk_at "bind") => alts "11 bk_oldS 2 bk_newS"
local macro_rules | `(tactic| walk_at "st") => alts "0 rs_cons rs_nil sk_next sk_ret sk_cont tk_next r1_If r1_ret r1_Continue 1 r1_Assign_name r1_Assign_attr r1_Assign_sub 2 r1_Assign_tuple r1_Expr 4 r1_Aug_name 0 5 r1_Aug_sub 0 r1_Assert"
local macro_rules | `(tactic| walk_at "ex") => alts "4 ev_var 0 ev_int ev_str ev_none ev_bool if_tt if_ff if_not 6 ev_attr 3 ev_Cmp 0 ev_BinOp ev_UnaryOp ev_IfExp et_not 3 et_cmp 0 et_bool ea_and_cons ea_or_cons ea_and_nil ea_or_nil 1 et_chain2 7 et_val 2 ev_call_name 8 ev_call_meth 0 el_nil 1 el_cons 0 ek_nil ek_cons 9 0 ep_none ep_some 1 ev_sub 0 ev_list ev_tuple ev_dict0 cm_raw cw_b cw_t 10 cw_r 0 as_name ao_nil 1 ao_cons"
local macro_rules | `(tactic| walk_at "op") => alts "0 o_add o_sub o_iadd o_isub o_eq o_ne o_lt o_le o_gt o_ge 15 sg_tup 0 t_bool t_int t_none o_isNone o_notNone"
local macro_rules | `(tactic| walk_at "go") => `(tactic| repeat (first | walk_at "st" | walk_at "ex" | walk_at "op" | walk_at "bind"))
local macro_rules | `(tactic| walk_at "nm") => alts "12 n__ahead n_heappush n_heappop n_DeadlockError n_Stream n_PriorityTree n__law_live n__law_shares n_len n_range n_isinstance n_int n_IndexError n_abs n_enumerate"
local macro_rules | `(tactic| walk_at "go") => `(tactic| repeat (first | walk_at "st" | walk_at "ex" | walk_at "op" | walk_at "bind" | walk_at "nm"))
noncomputable abbrev ClsS (C : Cx) : Prop := ClsOk C.K c_Stream 172 162 171
theorem clsS {C : Cx} (hC : Of C) : ClsS C := by
  unfold Of at hC; unfold ClsS; rw [hC]
  refine ⟨?_, ?_, ?_, ?_, ?_, ?_, ?_, ?_, ?_, ?_, ?_, ?_, ?_, ?_, ?_, ?_, ?_, ?_⟩ <;> kernel_rfl
section
variable {X : Fx} {m : Loc} {σ : MHeap} {KE : Value → MHeap → Prop} {K : MV → MHeap → Prop}
noncomputable abbrev St (σ : MHeap) (x : Addr) (n : Node) : Prop := StAt c_Stream σ x n
theorem isin_S {C : Cx} (hC : Of C) : isIn C.K (.ref c_Stream) c_Stream = true := by unfold Of at hC; rw [hC]; kernel_rfl
local macro_rules | `(tactic| walk_at "ga") => alts "13 ga_id ga_act ga_qu ga_ch ga_last ga_dft ga_w 14"
local macro_rules | `(tactic| walk_at "cv") => `(tactic| (first
  | (refine' cv_isinst_inst ?hi ?he ?_; (case hi => exact StAt.I (by assumption)); (case he => exact isin_S (by assumption)))
  | refine' cv_isinst_int ?_))
local macro_rules | `(tactic| walk_at "go") => `(tactic| repeat (first | walk_at "st" | walk_at "ex" | walk_at "op" | walk_at "bind" | walk_at "nm" | walk_at "ga" | walk_at "cv"))
theorem sp_lt (hC : Of X.C) {r : Nat} (hr : Room X.A (r + 1)) {x y : Addr} {n n' : Node} (hx : St σ x n) (hy : St σ y n') (h : K (.bool (decide (n.id < n'.id))) σ) :
    CallV X m σ (.ref a_Stream___lt__) [.ref x, .ref y] [] K KE := by
  refine cv_fn (ok_Stream___lt__ hC) hr.depth (m₀ := [("self", .ref x), ("other", .ref y)]) rfl (by kernel_rfl) (b2 fun v u => by kernel_rfl) fun L => ?_
  conv in fnBody _ => whnf
  walk_at "go"
  · exact h
theorem lt_S {C : Cx} (hC : Of C) : findIn C.K (.ref c_Stream) (cmpInfo .Lt).2.1 = some (some (.ref a_Stream___lt__)) ∧ isFn C.K (.ref a_Stream___lt__) = true := by
  unfold Of at hC; rw [hC]; exact ⟨by kernel_rfl, by kernel_rfl⟩
theorem o_lt_S (hC : Of X.C) {r : Nat} (hr : Room X.A (r + 1)) {x y : Addr} {n n' : Node} (hx : St σ x n) (hy : St σ y n') (h : K (.bool (decide (n.id < n'.id))) σ) :
    Op2 X m σ VR (compareOp .Lt) (.ref x) (.ref y) K KE := rc_inst hr hx.I hy.I (lt_S hC).1 (lt_S hC).2 (sp_lt hC hr hx hy ⟨rfl, h⟩)
noncomputable def ahead (i j : Int) (a b : Int) : Bool := if a = b then decide (i < j) else decide (a < b)
theorem sp_ahead (hC : Of X.C) {r : Nat} (hr : Room X.A (r + 2)) {x y : Addr} {n n' : Node} {a b : Int} (hx : St σ x n) (hy : St σ y n') (h : K (.bool (ahead n.id n'.id a b)) σ) :
    CallV X m σ (.ref a__ahead) [.tup [.int a, .ref x], .tup [.int b, .ref y]] [] K KE := by
  refine cv_fn (ok__ahead hC) hr.depth (m₀ := [("one", .tup [.int a, .ref x]), ("other", .tup [.int b, .ref y])]) rfl (by kernel_rfl) (b2 fun v u => by kernel_rfl) fun L => ?_
  have hr' := hr.deeper (callEnv (d__ahead X.C) L a__ahead)
  conv in fnBody _ => whnf
  walk_at "go"
  refine if_dec (fun e => ?_) (fun e => ?_)
  · walk_at "go"
    refine o_lt_S (X := X.into _) hC hr' hx hy ?_
    walk_at "go"
    unfold ahead at h; rw [if_pos e] at h; exact h
  · walk_at "go"
    unfold ahead at h; rw [if_neg e] at h; exact h
end
local macro_rules | `(tactic| walk_at "ga") => alts "13 ga_id ga_act ga_qu ga_ch ga_last ga_dft ga_w 14"
local macro_rules | `(tactic| walk_at "cv") => `(tactic| (first
  | (refine' cv_isinst_inst ?hi ?he ?_; (case hi => exact StAt.I (by assumption)); (case he => exact isin_S (by assumption)))
  | refine' cv_isinst_int ?_))
local macro_rules | `(tactic| walk_at "go") => `(tactic| repeat (first | walk_at "st" | walk_at "ex" | walk_at "op" | walk_at "bind" | walk_at "nm" | walk_at "ga" | walk_at "cv"))
section
variable {X : Fx} {m : Loc} {σ : MHeap} {KE : Value → MHeap → Prop} {K : MV → MHeap → Prop}
noncomputable def dn (idf : Addr → Int) (it : Int × Addr) (q : List (Int × Addr)) : Nat → Nat
  | 0 => 0
  | k + 1 => match q[k]? with
    | some y => if ahead (idf it.2) (idf y.2) it.1 y.1 = true then dn idf it q k else k + 1
    | none => k + 1
theorem dn_le (idf : Addr → Int) (it : Int × Addr) (q : List (Int × Addr)) : ∀ k, dn idf it q k ≤ k
  | 0 => Nat.le_refl _
  | k + 1 => by
    unfold dn
    split
    · split
      · exact Nat.le_succ_of_le (dn_le idf it q k)
      · exact Nat.le_refl _
    · exact Nat.le_refl _
noncomputable def pushQ (idf : Addr → Int) (q : List (Int × Addr)) (it : Int × Addr) : List (Int × Addr) := q.take (dn idf it q q.length) ++ it :: q.drop (dn idf it q q.length)
theorem qm_len (q : List (Int × Addr)) : (qm q).length = q.length := by unfold qm; simp
theorem qm_get {q : List (Int × Addr)} {k : Nat} {y : Int × Addr} (h : q[k]? = some y) : (qm q)[k]? = some (.tup [.int y.1, .ref y.2]) := by unfold qm; rw [List.getElem?_map, h]; rfl
theorem qm_push (idf : Addr → Int) (q : List (Int × Addr)) (it : Int × Addr) : qm (pushQ idf q it) = (qm q).take (dn idf it q q.length) ++ .tup [.int it.1, .ref it.2] :: (qm q).drop (dn idf it q q.length) := by
  unfold qm pushQ
  simp
theorem sp_push (hC : Of X.C) {r : Nat} (hr : Room X.A (r + 3)) {u x : Addr} {l : Int} {q : List (Int × Addr)} {idf : Addr → Int} (hu : σ.L u = some (qm q)) (hz : q.length ≤ 100000) (hx : ∃ n, St σ x n ∧ n.id = idf x) (hq : ∀ y ∈ q, ∃ n, St σ y.2 n ∧ n.id = idf y.2)
    (h : K .none (σ.setL u (qm (pushQ idf q (l, x))))) : CallV X m σ (.ref a_heappush) [.ref u, .tup [.int l, .ref x]] [] K KE := by
  refine cv_fn (ok_heappush hC) hr.depth (m₀ := [("queue", .ref u), ("item", .tup [.int l, .ref x])]) rfl (by kernel_rfl) (b2 fun v u => by kernel_rfl) fun L => ?_
  have hr' := hr.deeper (callEnv (d_heappush X.C) L a_heappush)
  obtain ⟨n, hx, hxi⟩ := hx
  conv in fnBody _ => whnf
  walk_at "go"
  refine cv_len_list hu (by rw [qm_len]; omega) ?_
  rw [qm_len]
  walk_at "go"
  refine r1_While (fun k m' σ' => k ≤ q.length ∧ dn idf (l, x) q k = dn idf (l, x) q q.length ∧ σ' = σ ∧ m' = ([("place", .int k), ("queue", .ref u), ("item", .tup [.int l, .ref x])] : Loc)) q.length ⟨Nat.le_refl _, rfl, rfl, rfl⟩ ?_
  rintro k m' σ' ⟨hk, he, rfl, rfl⟩
  walk_at "go"
  refine if_dec (fun hp => ?_) (fun hp => ?_)
  · obtain ⟨j, rfl⟩ : ∃ j, k = j + 1 := ⟨k - 1, by omega⟩
    have hj : j < q.length := hk
    have hy := List.getElem?_eq_getElem hj
    obtain ⟨n', hn', hni⟩ := hq q[j] (List.getElem_mem hj)
    have e1 : ((((j + 1 : Nat) : Int)) - 1).toNat = j := by omega
    walk_at "go"
    refine sg_list hu (by omega) (by omega) (by rw [e1]; exact qm_get hy) ?_
    walk_at "go"
    refine sp_ahead (X := X.into _) hC hr' hx hn' ?_
    rw [hxi, hni]
    walk_at "go"
    refine if_bool (fun hb => ?_) (fun hb => ?_)
    · walk_at "go"
      refine wk_next j (Nat.lt_succ_self j) ⟨Nat.le_of_lt hj, ?_, rfl, by rw [show (((j + 1 : Nat) : Int)) - 1 = (j : Int) by omega]⟩
      rw [← he]
      show _ = (match q[j]? with | some y => if ahead (idf x) (idf y.2) l y.1 = true then dn idf (l, x) q j else j + 1 | none => j + 1)
      rw [hy]
      exact (if_pos hb).symm
    · walk_at "go"
      have hd : dn idf (l, x) q q.length = j + 1 := by
        rw [← he]
        show (match q[j]? with | some y => if ahead (idf x) (idf y.2) l y.1 = true then dn idf (l, x) q j else j + 1 | none => j + 1) = _
        rw [hy]
        exact if_neg (by rw [hb]; decide)
      refine gm_list hu PySem.F.slot_list_insert PySem.F.type_list_insert ?_
      walk_at "go"
      refine cv_insert hu (by rw [qm_len]; omega) (by omega) (by rw [qm_len]; omega) ?_
      refine ⟨noref_none, ?_⟩
      walk_at "go"
      rw [qm_push, hd] at h
      exact h
  · have : k = 0 := by omega
    subst this
    have hd : dn idf (l, x) q q.length = 0 := he.symm
    walk_at "go"
    refine gm_list hu PySem.F.slot_list_insert PySem.F.type_list_insert ?_
    walk_at "go"
    refine cv_insert hu (by rw [qm_len]; omega) (by omega) (by rw [qm_len]; omega) ?_
    refine ⟨noref_none, ?_⟩
    walk_at "go"
    rw [qm_push, hd] at h
    exact h
theorem sp_pop (hC : Of X.C) {r : Nat} (hr : Room X.A (r + 1)) {u : Addr} {y : Int × Addr} {q : List (Int × Addr)} (hu : σ.L u = some (qm (y :: q))) (hz : q.length ≤ 100000) (h : K (.tup [.int y.1, .ref y.2]) (σ.setL u (qm q))) : CallV X m σ (.ref a_heappop) [.ref u] [] K KE := by
  refine cv_fn (ok_heappop hC) hr.depth (m₀ := [("queue", .ref u)]) rfl (by kernel_rfl) (b1 fun v => by kernel_rfl) fun L => ?_
  conv in fnBody _ => whnf
  walk_at "go"
  refine gm_list hu PySem.F.slot_list_pop PySem.F.type_list_pop ?_
  walk_at "go"
  refine cv_pop0 (l := qm q) hu (by rw [qm_len]; omega) ?_
  walk_at "go"
  exact h
end
section
variable {X : Fx} {m : Loc} {σ : MHeap} {KE : Value → MHeap → Prop} {K : MV → MHeap → Prop}
theorem ga_weight (hC : Of X.C) {r : Nat} (hr : Room X.A (r + 1)) {x : Addr} {n : Node} {ex : Bool} (hx : St σ x n) (h : K (.int n.w) σ) : Op1 X m σ VR (fun o => getAttr o "weight" ex) (.ref x) K KE := by
  refine ga_prop hx.I hx.S (clsS hC).prop ?_
  refine RunC.pre (cv_fnC (X := X.in1) (vs := [.ref x]) (ks := []) (m₀ := [("self", .ref x)]) (ok_Stream_weight0 hC) hr.depth rfl (by kernel_rfl) (b1 fun v => by kernel_rfl) (fun L => ?_) [.ref x] []) (fun _ _ => ⟨VRs.cons VR.ofRef VRs.nil, rfl⟩)
  conv in fnBody _ => whnf
  walk_at "go"
  exact ⟨rfl, h⟩
theorem sa_weight {K : MHeap → Prop} {S : List Addr} {σ₀ : MHeap} (hC : Of X.C) {r : Nat} (hr : Room X.A (r + 1)) {x d : Addr} {l l' : List (Str × MV)} {v : Int} (hI : σ.I x = some (c_Stream, d)) (hS : σ.S d = some l) (hA : Ag σ₀ σ S) (hd : d ∈ S) (hl : l.length ≤ 1000) (hp : putK l "_weight" (.int v) = l')
    (h1 : 1 ≤ v) (h2 : v ≤ 256) (h : ∀ σ', σ'.I x = some (c_Stream, d) → σ'.S d = some l' → Ag σ₀ σ' S → (∀ a, σ'.L a = σ.L a) → (∀ a, σ'.Dom a ↔ σ.Dom a) → K σ') : SetA X m σ "weight" (.ref x) (.int v) K KE := by
  refine sa_prop hI hS (clsS hC).prop (clsS hC).pset fun u => ?_
  refine RunC.pre (cv_fnC (X := X.in1.in1) (vs := [.ref x, .int v]) (ks := []) (m₀ := [("self", .ref x), ("value", .int v)]) (ok_Stream_weight1 hC) hr.depth rfl (by kernel_rfl) (b2 fun v u => by kernel_rfl) (fun L => ?_) [.ref x, u] []) (fun _ z => ⟨VRs.cons VR.ofRef (VRs.cons z VRs.nil), rfl⟩)
  conv in fnBody _ => whnf
  walk_at "go"
  refine if_dec (fun _ => ?_) (fun z => (z h1).elim)
  walk_at "go"
  rw [decide_eq_true h2]
  walk_at "go"
  refine sa_step hI hS hA hd (clsS hC).sw hl hp fun σ' a b c d e => ?_
  walk_at "go"
  exact h σ' a b c d e
end
section
variable {X : Fx} {m : Loc} {σ : MHeap} {KE : Value → MHeap → Prop} {K : MV → MHeap → Prop}
theorem bv_init3 {C : Cx} (hC : Of C) {a b c : MV} : BindsV C (d_Stream___init__ C) [a, b, c] [] [("self", a), ("stream_id", b), ("weight", c)] := fun vals kw h r k => by
  obtain ⟨v, u, w, rfl, hv, hu, hw⟩ := VRs.three r
  obtain rfl := KVs.no k
  exact ⟨[("self", v), ("stream_id", u), ("weight", w)], fun s hs => kp_binds hs (fun S => by unfold Of at hC; rw [hC]; kernel_rfl), v, _, rfl, hv, u, _, rfl, hu, w, [], rfl, hw, rfl⟩
theorem bv_initk {C : Cx} (hC : Of C) {a b c : MV} : BindsV C (d_Stream___init__ C) [a] [("stream_id", b), ("weight", c)] [("self", a), ("stream_id", b), ("weight", c)] := fun vals kw h r k => by
  obtain ⟨v, rfl, hv⟩ := VRs.one r
  obtain ⟨u, k1, rfl, hu, w, k2, rfl, hw, k3⟩ := k
  obtain rfl := k3
  exact ⟨[("self", v), ("stream_id", u), ("weight", w)], fun s hs => kp_binds hs (fun S => by unfold Of at hC; rw [hC]; kernel_rfl), v, _, rfl, hv, u, _, rfl, hu, w, [], rfl, hw, rfl⟩
theorem facts_S {C : Cx} (hC : Of C) : makesIn C.K c_Stream = true ∧ findIn C.K (.ref c_Stream) "__init__" = some (some (.ref a_Stream___init__)) ∧ typeIn C.K (.ref a_Stream___init__) = some (.type "function") := by
  unfold Of at hC; rw [hC]; exact ⟨by kernel_rfl, by kernel_rfl, by kernel_rfl⟩
theorem init_S (hC : Of X.C) {r : Nat} (hr : Room X.A (r + 2)) {x d L : Addr} {i w : Int} (hI : σ.I x = some (c_Stream, d)) (hS : σ.S d = some []) (hxd : x ≠ d) (h1 : 1 ≤ w) (h2 : w ≤ 256)
    (h : ∀ σ' c u, σ'.I x = some (c_Stream, d) → σ'.S d = some (attrs ⟨d, c, u, i, w, .none, [], [], true, 0, 0⟩) → σ'.L c = some [] → σ'.L u = some [] → Ag σ σ' [x, d, c, u] → ¬ σ.Dom c → ¬ σ.Dom u → c ≠ u → K .none σ') :
    RunS (X.into (callEnv (d_Stream___init__ X.C) L a_Stream___init__)) [("self", .ref x), ("stream_id", .int i), ("weight", .int w)] σ (fnBody (stIn 14 0)) (fun f _ σ' => K (retOf f) σ') (fun x _ σ' => KE x σ') := by
  have hr' := hr.deeper (callEnv (d_Stream___init__ X.C) L a_Stream___init__)
  have hK := clsS hC
  have dx : ¬ σ.Dom x → False := fun z => z (domI hI)
  conv in fnBody _ => whnf
  walk_at "go"
  refine sa_step (S := [x, d]) (l' := [("stream_id", .int i)]) hI hS Ag.refl (by simp) hK.sid (by simp) (by kernel_rfl) fun σ₁ I1 S1 A1 L1 D1 => ?_
  walk_at "go"
  refine sa_weight (X := X.into _) hC hr' (S := [x, d]) (l' := [("stream_id", .int i), ("_weight", .int w)]) I1 S1 A1 (by simp) (by simp) (by kernel_rfl) h1 h2 fun σ₂ I2 S2 A2 L2 D2 => ?_
  walk_at "go"
  refine ⟨by decide, fun c hc => ?_⟩
  walk_at "go"
  have c1 : ¬ σ.Dom c := fun z => hc ((D2 c).mpr ((D1 c).mpr z))
  have A3 : Ag σ (σ₂.setL c []) [x, d, c] := (A2.mono (S' := [x, d, c]) fun a h => List.mem_append_left [c] h).trans (SameOff.setL.ag (by simp))
  refine sa_step (X := X.into _) (S := [x, d, c]) (l' := [("stream_id", .int i), ("_weight", .int w), ("children", .ref c)]) (σ := σ₂.setL c []) I2 S2 A3 (by simp) hK.sch (by simp) (by kernel_rfl) fun σ₃ I3 S3 A3 L3 D3 => ?_
  walk_at "go"
  refine sa_step (X := X.into _) (S := [x, d, c]) (l' := [("stream_id", .int i), ("_weight", .int w), ("children", .ref c), ("parent", .none)]) I3 S3 A3 (by simp) hK.spar (by simp) (by kernel_rfl) fun σ₄ I4 S4 A4 L4 D4 => ?_
  walk_at "go"
  refine ⟨by decide, fun u hu => ?_⟩
  walk_at "go"
  have hcd : σ₄.Dom c := (D4 c).mpr ((D3 c).mpr (domL (l := []) (up_self _ _ _)))
  have cu : c ≠ u := fun e => hu (e ▸ hcd)
  have u1 : ¬ σ.Dom u := fun z => hu ((D4 u).mpr ((D3 u).mpr (by
    have : σ₂.Dom u := (D2 u).mpr ((D1 u).mpr z)
    obtain ⟨a1, a2, a3, a4, _⟩ := (SameOff.setL (σ := σ₂) (d := c) (x := [])) u (Ne.symm cu)
    unfold MHeap.Dom at this ⊢
    rwa [a1, a2, a3, a4])))
  have A5 : Ag σ (σ₄.setL u []) [x, d, c, u] := (A4.mono (S' := [x, d, c, u]) fun a h => List.mem_append_left [u] h).trans (SameOff.setL.ag (by simp))
  refine sa_step (X := X.into _) (S := [x, d, c, u]) (l' := [("stream_id", .int i), ("_weight", .int w), ("children", .ref c), ("parent", .none), ("child_queue", .ref u)]) (σ := σ₄.setL u []) I4 S4 A5 (by simp) hK.squ (by simp) (by kernel_rfl) fun σ₅ I5 S5 A5 L5 D5 => ?_
  walk_at "go"
  refine sa_step (X := X.into _) (S := [x, d, c, u]) (l' := [("stream_id", .int i), ("_weight", .int w), ("children", .ref c), ("parent", .none), ("child_queue", .ref u), ("active", .bool true)]) I5 S5 A5 (by simp) hK.sact (by simp) (by kernel_rfl) fun σ₆ I6 S6 A6 L6 D6 => ?_
  walk_at "go"
  refine sa_step (X := X.into _) (S := [x, d, c, u]) (l' := [("stream_id", .int i), ("_weight", .int w), ("children", .ref c), ("parent", .none), ("child_queue", .ref u), ("active", .bool true), ("last_weight", .int 0)]) I6 S6 A6 (by simp) hK.slast (by simp) (by kernel_rfl) fun σ₇ I7 S7 A7 L7 D7 => ?_
  walk_at "go"
  refine sa_step (X := X.into _) (S := [x, d, c, u]) (l' := attrs ⟨d, c, u, i, w, .none, [], [], true, 0, 0⟩) I7 S7 A7 (by simp) hK.sdft (by simp) (by kernel_rfl) fun σ₈ I8 S8 A8 L8 D8 => ?_
  walk_at "go"
  refine h σ₈ c u I8 S8 ?_ ?_ A8 c1 u1 cu
  · rw [L8, L7, L6, L5]
    show MHeap.up _ _ _ _ = _
    rw [up_ne _ _ cu, L4, L3]
    exact up_self _ _ _
  · rw [L8, L7, L6, L5]
    exact up_self _ _ _
theorem cv_stream_of (hC : Of X.C) {r : Nat} (hr : Room X.A (r + 4)) {vs : List MV} {ks : List (Str × MV)} {i w : Int} (hb : ∀ x, BindsV X.C (d_Stream___init__ X.C) (.ref x :: vs) ks [("self", .ref x), ("stream_id", .int i), ("weight", .int w)]) (h1 : 1 ≤ w) (h2 : w ≤ 256)
    (h : ∀ σ' x n, NewSt c_Stream σ σ' x n → (∃ d c u, n = ⟨d, c, u, i, w, .none, [], [], true, 0, 0⟩) → K (.ref x) σ') : CallV X m σ (.ref c_Stream) vs ks K KE := by
  obtain ⟨f1, f2, f3⟩ := facts_S hC
  refine cv_make f1 f2 f3 fun x d hx hd hxd vals kw => ?_
  have hroom : X.mk1.A.depth < recursionLimit := by
    have : recursionLimit = 1000 := rfl
    have := hr.1
    show X.A.depth + 1 < _
    omega
  refine RunC.pre (cv_fnC (X := X.mk1) (m₀ := [("self", .ref x), ("stream_id", .int i), ("weight", .int w)]) (ok_Stream___init__ hC) hroom rfl (by kernel_rfl) (hb x) (fun L => ?_) (.ref x :: vals) kw) (fun hp z => ⟨VRs.cons VR.ofRef z.1, z.2⟩)
  have hr1 : Room X.mk1.A (r + 2) := ⟨by have := hr.1; show X.A.depth + 1 + (r + 2) ≤ 800; omega, by have := hr.2; show X.A.units + 1 + 12 * (r + 2) ≤ 9000; omega⟩
  refine init_S (X := X.mk1) (K := fun v σ' => v = .none ∧ K (.ref x) σ') hC hr1 (up_self _ _ _) (by show (MHeap.up _ _ _ _) = _; exact up_self _ _ _) hxd h1 h2 fun σ' c u I S C U A hc hu cu => ⟨rfl, ?_⟩
  have sub : ∀ a, σ.Dom a → ((σ.setS d []).setI x (c_Stream, d)).Dom a := fun a z => by
    have nx : a ≠ x := fun e => hx (e ▸ z)
    have nd : a ≠ d := fun e => hd (e ▸ z)
    obtain ⟨a1, a2, a3, a4, _⟩ := (SameOff.setS (σ := σ) (d := d) (x := [])) a nd
    obtain ⟨b1, b2, b3, b4, _⟩ := (SameOff.setI (σ := σ.setS d []) (d := x) (x := (c_Stream, d))) a nx
    unfold MHeap.Dom at z ⊢
    rw [b1, b2, b3, b4, a1, a2, a3, a4]; exact z
  refine h σ' x ⟨d, c, u, i, w, .none, [], [], true, 0, 0⟩ ⟨⟨I, S, C, U⟩, ?_, hx, hd, fun z => hc (sub _ z), fun z => hu (sub _ z), cu⟩ ⟨d, c, u, rfl⟩
  exact ((SameOff.setS (σ := σ) (d := d) (x := [])).ag (by simp)).trans (((SameOff.setI (σ := σ.setS d []) (d := x) (x := (c_Stream, d))).ag (by simp)).trans A)
end
section
variable {X : Fx} {m : Loc} {σ : MHeap} {KE : Value → MHeap → Prop} {K : MV → MHeap → Prop} {T : Tree}
noncomputable def idT (T : Tree) (a : Addr) : Int := match T a with | some n => n.id | none => 0
theorem idT_of {x : Addr} {n : Node} (h : T x = some n) : idT T x = n.id := by unfold idT; rw [h]
noncomputable def Off (T : Tree) (σ σ' : MHeap) : Prop := ∀ a, σ.Dom a → ¬ Foot T a → Agree σ σ' a
theorem Off.refl : Off T σ σ := fun _ _ _ => Agree.refl
theorem Off.trans {σ' σ'' : MHeap} (x : Off T σ σ') (y : Off T σ' σ'') : Off T σ σ'' := fun a d h => (x a d h).trans (y a ((x a d h).dom.mpr d) h)
theorem SameOff.off {σ' : MHeap} {d : Addr} (x : SameOff d σ σ') (h : Foot T d) : Off T σ σ' := fun a _ n => x a fun e => n (e ▸ h)
theorem SameOff.offNew {σ' : MHeap} {d : Addr} (x : SameOff d σ σ') (h : ¬ σ.Dom d) : Off T σ σ' := fun a z n => x a fun e => h (e ▸ z)
theorem Rep.newOff {cS : Addr} {σ' : MHeap} {d : Addr} (R : Rep cS σ T) (x : SameOff d σ σ') (h : ¬ σ.Dom d) : Rep cS σ' T := R.agree fun a f => x a fun e => h (e ▸ R.dom f)
theorem foot_d {x : Addr} {n : Node} (h : T x = some n) : Foot T n.d := ⟨x, n, h, .inr (.inl rfl)⟩
theorem foot_c {x : Addr} {n : Node} (h : T x = some n) : Foot T n.c := ⟨x, n, h, .inr (.inr (.inl rfl))⟩
theorem foot_u {x : Addr} {n : Node} (h : T x = some n) : Foot T n.u := ⟨x, n, h, .inr (.inr (.inr rfl))⟩
structure Like (T T' : Tree) : Prop where
  some : ∀ x n, T x = some n → ∃ n', T' x = some n' ∧ SameAt n n' ∧ n'.id = n.id
  none : ∀ x, T x = none → T' x = none
theorem Like.trans {T' T'' : Tree} (a : Like T T') (b : Like T' T'') : Like T T'' := ⟨fun x n h => by
    obtain ⟨n', h', s, i⟩ := a.some x n h
    obtain ⟨n2, h2, s2, i2⟩ := b.some x n' h'
    exact ⟨n2, h2, ⟨s2.d.trans s.d, s2.c.trans s.c, s2.u.trans s.u⟩, i2.trans i⟩, fun x h => b.none x (a.none x h)⟩
theorem Like.up {x : Addr} {n n' : Node} (h : T x = Option.some n) (s : SameAt n n') (i : n'.id = n.id) : Like T (upT T x n') := ⟨fun y k hy => by
    by_cases e : y = x
    · subst e; rw [h] at hy; cases hy; exact ⟨n', upT_self, s, i⟩
    · exact ⟨k, (upT_ne e).trans hy, ⟨rfl, rfl, rfl⟩, rfl⟩, fun y hy => by
    by_cases e : y = x
    · subst e; rw [h] at hy; cases hy
    · exact (upT_ne e).trans hy⟩
theorem Like.idT {T' : Tree} (a : Like T T') : idT T' = Mine.idT T := by
  funext x
  unfold Mine.idT
  cases h : T x with
  | none => rw [a.none x h]
  | some n => obtain ⟨n', h', _, i⟩ := a.some x n h; rw [h']; exact i
theorem Like.foot {T' : Tree} (l : Like T T') (a : Addr) : Foot T' a ↔ Foot T a := by
  constructor
  · rintro ⟨x, n', hx, h⟩
    cases e : T x with
    | none => rw [l.none x e] at hx; cases hx
    | some n =>
      obtain ⟨n2, h2, s, _⟩ := l.some x n e
      rw [hx] at h2; cases h2
      exact ⟨x, n, e, by rw [← s.d, ← s.c, ← s.u]; exact h⟩
  · rintro ⟨x, n, hx, h⟩
    obtain ⟨n', h', s, _⟩ := l.some x n hx
    exact ⟨x, n', h', by rw [s.d, s.c, s.u]; exact h⟩
theorem Like.off {T' : Tree} {σ' : MHeap} (l : Like T T') (h : Off T' σ σ') : Off T σ σ' := fun a d n => h a d fun f => n ((l.foot a).mp f)
noncomputable abbrev RepS (σ : MHeap) (T : Tree) : Prop := Rep c_Stream σ T
noncomputable def QIn (T : Tree) (n : Node) : Prop := n.q.length ≤ 50000 ∧ ∀ e ∈ n.q, ∃ k, T e.2 = some k
theorem meth_S {C : Cx} (hC : Of C) : methIn C.K c_Stream "add_child" a_Stream_add_child = true ∧ methIn C.K c_Stream "schedule" a_Stream_schedule = true ∧ methIn C.K c_Stream "add_child_exclusive" a_Stream_add_child_exclusive = true ∧ methIn C.K c_Stream "remove_child" a_Stream_remove_child = true := by
  unfold Of at hC; rw [hC]; exact ⟨by kernel_rfl, by kernel_rfl, by kernel_rfl, by kernel_rfl⟩
theorem gm_add (hC : Of X.C) {x : Addr} {n : Node} {pl : Sem Bool} {K : Value → List MV → MHeap → Prop} (hx : St σ x n) (h : K (.ref a_Stream_add_child) [.ref x] σ) : GetM X m σ "add_child" pl (.ref x) K KE := gm_inst hx.I hx.S (meth_S hC).1 (by kernel_rfl) h
theorem gm_sched (hC : Of X.C) {x : Addr} {n : Node} {pl : Sem Bool} {K : Value → List MV → MHeap → Prop} (hx : St σ x n) (h : K (.ref a_Stream_schedule) [.ref x] σ) : GetM X m σ "schedule" pl (.ref x) K KE := gm_inst hx.I hx.S (meth_S hC).2.1 (by kernel_rfl) h
noncomputable def addT (T : Tree) (y x : Addr) (ny nx : Node) : Tree := upT (upT T x { nx with par := .ref y }) y { ny with kids := ny.kids ++ [x], q := pushQ (idT T) ny.q (ny.last, x) }
theorem addT_like {y x : Addr} {ny nx : Node} (hy : T y = some ny) (hx : T x = some nx) (hxy : x ≠ y) : Like T (addT T y x ny nx) :=
  (Like.up hx (n' := { nx with par := .ref y }) ⟨rfl, rfl, rfl⟩ rfl).trans (Like.up (n := ny) (n' := { ny with kids := ny.kids ++ [x], q := pushQ (idT T) ny.q (ny.last, x) }) (T := upT T x { nx with par := .ref y }) ((upT_ne (Ne.symm hxy)).trans hy) ⟨rfl, rfl, rfl⟩ rfl)
theorem sp_add (hC : Of X.C) {r : Nat} (hr : Room X.A (r + 4)) {y x : Addr} {ny nx : Node} (R : RepS σ T) (hy : T y = some ny) (hx : T x = some nx) (hxy : x ≠ y) (hq : QIn T ny) (hk : ny.kids.length ≤ 50000)
    (h : ∀ σ', RepS σ' (addT T y x ny nx) → Off T σ σ' → K .none σ') : CallV X m σ (.ref a_Stream_add_child) [.ref y, .ref x] [] K KE := by
  refine cv_fn (ok_Stream_add_child hC) hr.depth (m₀ := [("self", .ref y), ("child", .ref x)]) rfl (by kernel_rfl) (b2 fun v u => by kernel_rfl) fun L => ?_
  have hr' := hr.deeper (callEnv (d_Stream_add_child X.C) L a_Stream_add_child)
  have A0 := R.at_ x nx hx
  conv in fnBody _ => whnf
  walk_at "go"
  refine sa_par (X := X.into _) (clsS hC) A0 ?_
  have R1 := R.setS (n' := { nx with par := .ref y }) hx ⟨rfl, rfl, rfl⟩ rfl rfl
  have hy1 : upT T x { nx with par := .ref y } y = some ny := (upT_ne (Ne.symm hxy)).trans hy
  have A1 := R1.at_ y ny hy1
  walk_at "go"
  refine gm_list A1.C PySem.F.slot_list_append PySem.F.type_list_append ?_
  walk_at "go"
  refine cv_append A1.C (by unfold km; rw [List.length_map]; omega) ?_
  rw [show km ny.kids ++ [MV.ref x] = km (ny.kids ++ [x]) from by unfold km; simp]
  have R2 := R1.setC hy1 (ny.kids ++ [x])
  have A2 := R2.at_ y _ upT_self
  refine ⟨noref_none, ?_⟩
  walk_at "go"
  refine ⟨by simp, ?_⟩
  walk_at "go"
  have hid : ∀ e, ∀ k, T e = some k → ∃ n, St ((σ.setS nx.d (attrs { nx with par := .ref y })).setL ny.c (km (ny.kids ++ [x]))) e n ∧ n.id = idT T e := fun e k he => by
    have l1 := Like.up hx (n' := { nx with par := .ref y }) ⟨rfl, rfl, rfl⟩ rfl
    have l2 := Like.up (T := upT T x { nx with par := .ref y }) hy1 (n' := { ny with kids := ny.kids ++ [x] }) ⟨rfl, rfl, rfl⟩ rfl
    obtain ⟨n', h', _, i⟩ := (l1.trans l2).some e k he
    exact ⟨n', R2.at_ e n' h', by rw [i, idT_of he]⟩
  refine sp_push (X := X.into _) (idf := idT T) hC hr' A2.Q (by show ny.q.length ≤ _; have := hq.1; omega) (hid x nx hx) (fun e he => by obtain ⟨k, hk⟩ := hq.2 e he; exact hid e.2 k hk) ?_
  refine ⟨noref_none, ?_⟩
  walk_at "go"
  have R3 := R2.setQ (n := { ny with kids := ny.kids ++ [x] }) upT_self (pushQ (idT T) ny.q (ny.last, x))
  refine h _ ?_ ?_
  · have e : upT (upT (upT T x { nx with par := .ref y }) y { ny with kids := ny.kids ++ [x] }) y { ny with kids := ny.kids ++ [x], q := pushQ (idT T) ny.q (ny.last, x) } = addT T y x ny nx := by
      funext z
      unfold addT
      by_cases e : z = y
      · subst e; rw [upT_self, upT_self]
      · rw [upT_ne e, upT_ne e, upT_ne e]
    rw [← e]; exact R3
  · exact (SameOff.setS.off (foot_d hx)).trans ((SameOff.setL.off (foot_c hy)).trans (SameOff.setL.off (d := ny.u) (foot_u hy)))
end
noncomputable def fin1 (T : Tree) (x y : Addr) (l : Int) (n k : Node) : Tree :=
  upT (upT T y { k with dft := (256 + k.dft) % k.w }) x { n with last := l, q := pushQ (idT T) n.q (l + (256 + k.dft) / k.w, y) }
section
variable {X : Fx} {m : Loc} {σ : MHeap} {KE : Value → MHeap → Prop} {K : MV → MHeap → Prop} {T : Tree}
structure PT where
  d : Addr
  root : Addr
  sd : Addr
  mx : Int
  tab : List (Int × Addr)
noncomputable def attrsT (p : PT) : List (Str × MV) := [("_root_stream", .ref p.root), ("_streams", .ref p.sd), ("_maximum_streams", .int p.mx)]
noncomputable def tm (l : List (Int × Addr)) : List (Int × MV) := l.map fun e => (e.1, .ref e.2)
noncomputable def tabAt (l : List (Int × Addr)) (k : Int) : Option Addr := (l.find? fun e => e.1 = k).map (·.2)
theorem atK_tm (l : List (Int × Addr)) (k : Int) : atK (tm l) k = (tabAt l k).map .ref := by
  induction l with
  | nil => rfl
  | cons e r ih =>
    unfold atK tabAt tm at ih ⊢
    rw [List.map_cons, List.find?_cons, List.find?_cons]
    by_cases h : e.1 = k
    · simp [h]
    · simpa [h] using ih
theorem putK_tm {l : List (Int × Addr)} {k : Int} {x : Addr} (h : tabAt l k = none) : putK (tm l) k (.ref x) = tm (l ++ [(k, x)]) := by
  have : (tm l).any (fun p => decide (p.1 = k)) = false := by
    have := atK_tm l k
    rw [h] at this
    unfold atK at this
    simp only [Option.map_none, Option.map_eq_none_iff, List.find?_eq_none] at this
    rw [List.any_eq_false]
    intro p hp; simpa using this p hp
  unfold putK
  rw [this]
  simp [tm]
structure PtAt (σ : MHeap) (t : Addr) (p : PT) : Prop where
  I : σ.I t = some (c_PriorityTree, p.d)
  S : σ.S p.d = some (attrsT p)
  D : σ.D p.sd = some (tm p.tab)
noncomputable def FootP (t : Addr) (p : PT) (T : Tree) (a : Addr) : Prop := Foot T a ∨ a = t ∨ a = p.d ∨ a = p.sd
structure PtOk (σ : MHeap) (t : Addr) (p : PT) (T : Tree) : Prop where
  rep : RepS σ T
  at_ : PtAt σ t p
  nt : ¬ Foot T t
  nd : ¬ Foot T p.d
  ns : ¬ Foot T p.sd
theorem PtAt.agree {σ' : MHeap} {t : Addr} {p : PT} (A : PtAt σ t p) (a : Agree σ σ' t) (b : Agree σ σ' p.d) (c : Agree σ σ' p.sd) : PtAt σ' t p := ⟨a.1.trans A.I, b.2.2.2.1.trans A.S, c.2.2.1.trans A.D⟩
theorem PtAt.off {σ' : MHeap} {t : Addr} {p : PT} (O : PtOk σ t p T) (h : Off T σ σ') : PtAt σ' t p := O.at_.agree (h t (domI O.at_.I) O.nt) (h _ (domS O.at_.S) O.nd) (h _ (domD O.at_.D) O.ns)
noncomputable def OffP (F : Addr → Prop) (σ σ' : MHeap) : Prop := ∀ a, σ.Dom a → ¬ F a → Agree σ σ' a
theorem facts_T {C : Cx} (hC : Of C) : (ownIn C.K c_PriorityTree "_root_stream" = true ∧ ownIn C.K c_PriorityTree "_streams" = true ∧ ownIn C.K c_PriorityTree "_maximum_streams" = true) ∧
    (methIn C.K c_PriorityTree "_get_or_insert_parent" a_PriorityTree__get_or_insert_parent = true ∧ methIn C.K c_PriorityTree "insert_stream" a_PriorityTree_insert_stream = true ∧ methIn C.K c_PriorityTree "block" a_PriorityTree_block = true ∧
      methIn C.K c_PriorityTree "__next__" a_PriorityTree___next__ = true ∧ methIn C.K c_PriorityTree "next" a_PriorityTree_next = true) := by
  unfold Of at hC; rw [hC]; exact ⟨⟨by kernel_rfl, by kernel_rfl, by kernel_rfl⟩, by kernel_rfl, by kernel_rfl, by kernel_rfl, by kernel_rfl, by kernel_rfl⟩
variable {t : Addr} {p : PT} {ex : Bool}
theorem ga_root (hC : Of X.C) (A : PtAt σ t p) (h : K (.ref p.root) σ) : Op1 X m σ VR (fun o => getAttr o "_root_stream" ex) (.ref t) K KE := ga_own A.I A.S (facts_T hC).1.1 (by kernel_rfl) rfl h
theorem ga_streams (hC : Of X.C) (A : PtAt σ t p) (h : K (.ref p.sd) σ) : Op1 X m σ VR (fun o => getAttr o "_streams" ex) (.ref t) K KE := ga_own A.I A.S (facts_T hC).1.2.1 (by kernel_rfl) rfl h
theorem ga_max (hC : Of X.C) (A : PtAt σ t p) (h : K (.int p.mx) σ) : Op1 X m σ VR (fun o => getAttr o "_maximum_streams" ex) (.ref t) K KE := ga_own A.I A.S (facts_T hC).1.2.2 (by kernel_rfl) rfl h
theorem gm_T (hC : Of X.C) {name : Str} {f : Addr} {pl : Sem Bool} {K : Value → List MV → MHeap → Prop} (A : PtAt σ t p) (hm : methIn X.C.K c_PriorityTree name f = true) (hn : atK (attrsT p) name = none) (h : K (.ref f) [.ref t] σ) : GetM X m σ name pl (.ref t) K KE := gm_inst A.I A.S hm hn h
local macro_rules | `(tactic| walk_at "ga") => `(tactic| (first
  | ((with_reducible refine' ga_root ?hC ?hA ?_); (case hC => assumption); (case hA => assumption))
  | ((with_reducible refine' ga_streams ?hC ?hA ?_); (case hC => assumption); (case hA => assumption))
  | ((with_reducible refine' ga_max ?hC ?hA ?_); (case hC => assumption); (case hA => assumption))))
theorem foot_new {σ' : MHeap} {x : Addr} {nx : Node} (N : NewSt c_Stream σ σ' x nx) {a : Addr} (h : Foot (upT T x nx) a) : Foot T a ∨ ¬ σ.Dom a := by
  obtain ⟨y, n, hy, h⟩ := h
  by_cases e : y = x
  · subst e
    rw [upT_self] at hy; cases hy
    right
    rcases h with rfl | rfl | rfl | rfl
    · exact N.fx
    · exact N.fd
    · exact N.fc
    · exact N.fu
  · rw [upT_ne e] at hy
    exact .inl ⟨y, n, hy, h⟩
theorem NewSt.same {σ' : MHeap} {x : Addr} {nx : Node} (N : NewSt c_Stream σ σ' x nx) {a : Addr} (d : σ.Dom a) : Agree σ σ' a := N.ag a fun q => by
  simp only [List.mem_cons, List.not_mem_nil, or_false] at q
  rcases q with rfl | rfl | rfl | rfl
  · exact N.fx d
  · exact N.fd d
  · exact N.fc d
  · exact N.fu d
theorem sp_gip (hC : Of X.C) {r : Nat} (hr : Room X.A (r + 1)) {e : Int} {y : Addr} (A : PtAt σ t p) (he : tabAt p.tab e = some y) (h : K (.ref y) σ) : CallV X m σ (.ref a_PriorityTree__get_or_insert_parent) [.ref t, .int e] [] K KE := by
  refine cv_fn (ok_PriorityTree__get_or_insert_parent hC) hr.depth (m₀ := [("self", .ref t), ("parent_stream_id", .int e)]) rfl (by kernel_rfl) (b2 fun v u => by kernel_rfl) fun L => ?_
  conv in fnBody _ => whnf
  walk_at "go"
  refine r1_Try0 ?_
  walk_at "go"
  refine sg_dict A.D (by rw [atK_tm, he]; rfl) ?_
  walk_at "go"
  exact h
noncomputable def DepIs (dv : MV) (id e : Int) : Prop := (dv = .none ∧ e = 0) ∨ (∃ e', dv = .int e' ∧ ((e' = 0 ∧ e = 0) ∨ (e' ≠ 0 ∧ e' ≠ id ∧ e = e')))
theorem sp_ins (hC : Of X.C) {r : Nat} (hr : Room X.A (r + 6)) {id e w : Int} {y : Addr} {ny : Node} {dv : MV} {vs : List MV} {ks : List (Str × MV)}
    (hb : BindsV X.C (d_PriorityTree_insert_stream X.C) vs ks [("self", .ref t), ("stream_id", .int id), ("depends_on", dv), ("weight", .int w), ("exclusive", .bool false)])
    (O : PtOk σ t p T) (hid : tabAt p.tab id = none) (hz : p.tab.length ≤ 50000) (hmx : (p.tab.length : Int) + 1 ≤ p.mx) (h1 : 1 ≤ w) (h2 : w ≤ 256) (hd : DepIs dv id e) (hy : tabAt p.tab e = some y) (hTy : T y = some ny) (hq : QIn T ny) (hk : ny.kids.length ≤ 50000)
    (h : ∀ σ' x nx, T x = none → (∃ d c u, nx = ⟨d, c, u, id, w, .none, [], [], true, 0, 0⟩) → PtOk σ' t { p with tab := p.tab ++ [(id, x)] } (addT (upT T x nx) y x ny nx) → OffP (FootP t p T) σ σ' →
      (∀ a, Foot (addT (upT T x nx) y x ny nx) a → Foot T a ∨ ¬ σ.Dom a) → K .none σ') : CallV X m σ (.ref a_PriorityTree_insert_stream) vs ks K KE := by
  refine cv_fn (ok_PriorityTree_insert_stream hC) hr.depth (m₀ := [("self", .ref t), ("stream_id", .int id), ("depends_on", dv), ("weight", .int w), ("exclusive", .bool false)]) rfl (by kernel_rfl) hb fun L => ?_
  have hr' := hr.deeper (callEnv (d_PriorityTree_insert_stream X.C) L a_PriorityTree_insert_stream)
  have A := O.at_
  conv in fnBody _ => whnf
  walk_at "go"
  refine o_in_dict A.D ?_
  rw [atK_tm, hid]
  walk_at "go"
  refine if_ff ?_
  walk_at "go"
  refine cv_len_dict A.D (by unfold tm; rw [List.length_map]; omega) ?_
  walk_at "go"
  rw [decide_eq_false (by unfold tm; rw [List.length_map]; omega)]
  walk_at "go"
  refine cv_stream_of (X := X.into _) (r := r + 1) hC hr' (fun x => bv_init3 hC) h1 h2 fun σ1 x nx N hnx => ?_
  have nx0 : T x = none := by
    cases z : T x with
    | none => rfl
    | some k => exact (N.fx (O.rep.dom ⟨x, k, z, .inl rfl⟩)).elim
  have R1 := O.rep.new N
  have fn := fun a (f : Foot (upT T x nx) a) => foot_new N f
  have A1 : PtAt σ1 t p := A.agree (N.same (domI A.I)) (N.same (domS A.S)) (N.same (domD A.D))
  have O1 : PtOk σ1 t p (upT T x nx) := ⟨R1, A1, fun f => (fn t f).elim O.nt fun z => z (domI A.I), fun f => (fn _ f).elim O.nd fun z => z (domS A.S), fun f => (fn _ f).elim O.ns fun z => z (domD A.D)⟩
  have hxy : x ≠ y := fun e => by rw [e, hTy] at nx0; cases nx0
  have hTy1 : upT T x nx y = some ny := (upT_ne (Ne.symm hxy)).trans hTy
  have hq1 : QIn (upT T x nx) ny := ⟨hq.1, fun e he => by
    obtain ⟨k, hk⟩ := hq.2 e he
    exact ⟨k, (upT_ne fun z => by rw [z, nx0] at hk; cases hk).trans hk⟩⟩
  walk_at "bind"
  walk_at "st"
  walk_at "st"
  refine RunL.mono (K := fun f m' σ' => f = .next ∧ m' = ([("stream", .ref x), ("self", .ref t), ("stream_id", .int id), ("depends_on", .int e), ("weight", .int w), ("exclusive", .bool false)] : Loc) ∧ σ' = σ1) (KE := fun x _ σ' => KE x σ') ?_ ?_ fun _ _ _ z => z
  · rcases hd with ⟨rfl, rfl⟩ | ⟨e', rfl, ⟨rfl, rfl⟩ | ⟨n0, nid, rfl⟩⟩
    · walk_at "go"
      exact ⟨rfl, rfl, rfl⟩
    · walk_at "go"
      rw [decide_eq_true rfl]
      walk_at "go"
      exact ⟨rfl, rfl, rfl⟩
    · walk_at "go"
      rw [decide_eq_false n0]
      walk_at "go"
      rw [decide_eq_false nid]
      walk_at "go"
      exact ⟨rfl, rfl, rfl⟩
  rintro f m' σ' ⟨rfl, rfl, rfl⟩
  walk_at "go"
  refine gm_T (X := X.into _) hC A1 (facts_T hC).2.1 (by kernel_rfl) ?_
  walk_at "go"
  refine sp_gip (X := X.into _) (r := r) hC (hr'.less (by omega)) A1 hy ?_
  walk_at "go"
  refine gm_add (X := X.into _) hC (R1.at_ y ny hTy1) ?_
  walk_at "go"
  refine sp_add (X := X.into _) (r := r + 1) hC hr' R1 hTy1 upT_self hxy hq1 hk fun σ2 R2 Of2 => ?_
  have A2 : PtAt σ2 t p := PtAt.off O1 Of2
  have l2 : Like (upT T x nx) (addT (upT T x nx) y x ny nx) := addT_like hTy1 upT_self hxy
  refine ⟨noref_none, ?_⟩
  walk_at "go"
  refine si_dict A2.D (by unfold tm; rw [List.length_map]; omega) ?_
  walk_at "go"
  rw [putK_tm hid]
  have nsf : ¬ Foot (addT (upT T x nx) y x ny nx) p.sd := fun f => O1.ns ((l2.foot _).mp f)
  refine h _ x nx nx0 hnx ⟨R2.agree fun a f => SameOff.setD a fun e => nsf (e ▸ f), ⟨A2.I, A2.S, up_self _ _ _⟩, fun f => O1.nt ((l2.foot _).mp f), fun f => O1.nd ((l2.foot _).mp f), nsf⟩ ?_ fun a f => fn a ((l2.foot a).mp f)
  intro a d nf
  have n1 : ¬ Foot (upT T x nx) a := fun f => (fn a f).elim (fun z => nf (.inl z)) fun z => z d
  exact ((N.same d).trans (Of2 a ((N.same d).dom.mpr d) n1)).trans (SameOff.setD a fun e => nf (.inr (.inr (.inr e))))
end
section
variable {X : Fx} {m : Loc} {σ : MHeap} {KE : Value → MHeap → Prop} {K : MV → MHeap → Prop} {T : Tree} {t : Addr} {p : PT}
local macro_rules | `(tactic| walk_at "ga") => `(tactic| (first
  | ((with_reducible refine' ga_root ?hC ?hA ?_); (case hC => assumption); (case hA => assumption))
  | ((with_reducible refine' ga_streams ?hC ?hA ?_); (case hC => assumption); (case hA => assumption))
  | ((with_reducible refine' ga_max ?hC ?hA ?_); (case hC => assumption); (case hA => assumption))))
noncomputable def actT (T : Tree) (y : Addr) (n : Node) (b : Bool) : Tree := upT T y { n with act := b }
theorem sp_block (hC : Of X.C) {r : Nat} (hr : Room X.A (r + 2)) {id : Int} {y : Addr} {ny : Node} (O : PtOk σ t p T) (h0 : id ≠ 0) (hy : tabAt p.tab id = some y) (hTy : T y = some ny)
    (h : ∀ σ', PtOk σ' t p (actT T y ny false) → Off T σ σ' → K .none σ') : CallV X m σ (.ref a_PriorityTree_block) [.ref t, .int id] [] K KE := by
  refine cv_fn (ok_PriorityTree_block hC) hr.depth (m₀ := [("self", .ref t), ("stream_id", .int id)]) rfl (by kernel_rfl) (b2 fun v u => by kernel_rfl) fun L => ?_
  have A := O.at_
  conv in fnBody _ => whnf
  walk_at "go"
  rw [decide_eq_false h0]
  walk_at "go"
  refine r1_Try0 ?_
  walk_at "go"
  refine sg_dict A.D (by rw [atK_tm, hy]; rfl) ?_
  refine sa_act (X := X.into _) (clsS hC) (O.rep.at_ y ny hTy) ?_
  have R' := O.rep.setS (n' := { ny with act := false }) hTy ⟨rfl, rfl, rfl⟩ rfl rfl
  have l := Like.up (n' := { ny with act := false }) hTy ⟨rfl, rfl, rfl⟩ rfl
  have Of : Off T σ (σ.setS ny.d (attrs { ny with act := false })) := SameOff.setS.off (foot_d hTy)
  walk_at "go"
  exact h _ ⟨R', PtAt.off O Of, fun f => O.nt ((l.foot _).mp f), fun f => O.nd ((l.foot _).mp f), fun f => O.ns ((l.foot _).mp f)⟩ Of
theorem bv_tree {C : Cx} (hC : Of C) {a : MV} : BindsV C (d_PriorityTree___init__ C) [a] [] [("self", a), ("maximum_streams", .int 1000)] := fun vals kw h r k => by
  obtain ⟨v, rfl, hv⟩ := VRs.one r
  obtain rfl := KVs.no k
  exact ⟨[("self", v), ("maximum_streams", .int 1000 tokMax)], fun s hs => kp_binds hs (fun S => by unfold Of at hC; rw [hC]; kernel_rfl), v, _, rfl, hv, _, [], rfl, VR.ofInt, rfl⟩
theorem facts_T2 {C : Cx} (hC : Of C) : makesIn C.K c_PriorityTree = true ∧ findIn C.K (.ref c_PriorityTree) "__init__" = some (some (.ref a_PriorityTree___init__)) ∧ typeIn C.K (.ref a_PriorityTree___init__) = some (.type "function") ∧
    setIn C.K c_PriorityTree "_root_stream" = true ∧ setIn C.K c_PriorityTree "_streams" = true ∧ setIn C.K c_PriorityTree "_maximum_streams" = true := by
  unfold Of at hC; rw [hC]; exact ⟨by kernel_rfl, by kernel_rfl, by kernel_rfl, by kernel_rfl, by kernel_rfl, by kernel_rfl⟩
end
section
variable {X : Fx} {m : Loc} {σ : MHeap} {KE : Value → MHeap → Prop} {K : MV → MHeap → Prop} {T : Tree} {t : Addr} {p : PT}
noncomputable def Fr0 (σ σ' : MHeap) : Prop := ∀ a, σ.Dom a → Agree σ σ' a
theorem Fr0.refl : Fr0 σ σ := fun _ _ => Agree.refl
theorem Fr0.step {σ' σ'' : MHeap} {d : Addr} (x : Fr0 σ σ') (y : SameOff d σ' σ'') (h : ¬ σ.Dom d) : Fr0 σ σ'' := fun a z => (x a z).trans (y a fun e => h (e ▸ z))
theorem Fr0.not {σ' : MHeap} {a : Addr} (x : Fr0 σ σ') (h : ¬ σ'.Dom a) : ¬ σ.Dom a := fun z => h ((x a z).dom.mpr z)
theorem init_T (hC : Of X.C) {r : Nat} (hr : Room X.A (r + 5)) {dt L : Addr} (hI : σ.I t = some (c_PriorityTree, dt)) (hS : σ.S dt = some []) (htd : t ≠ dt)
    (h : ∀ σ' x nx sd, (∃ d c u, nx = ⟨d, c, u, 0, 1, .none, [], [], false, 0, 0⟩) → PtOk σ' t ⟨dt, x, sd, 1000, [(0, x)]⟩ (upT (fun _ => none) x nx) → (∀ a, σ.Dom a → a ≠ dt → Agree σ σ' a) →
      (∀ a, Foot (upT (fun _ => none) x nx) a → ¬ σ.Dom a) → ¬ σ.Dom sd → K .none σ') :
    RunS (X.into (callEnv (d_PriorityTree___init__ X.C) L a_PriorityTree___init__)) [("self", .ref t), ("maximum_streams", .int 1000)] σ (fnBody (stIn 15 0)) (fun f _ σ' => K (retOf f) σ') (fun x _ σ' => KE x σ') := by
  have hr' := hr.deeper (callEnv (d_PriorityTree___init__ X.C) L a_PriorityTree___init__)
  obtain ⟨_, _, _, f1, f2, f3⟩ := facts_T2 hC
  conv in fnBody _ => whnf
  walk_at "go"
  refine cv_stream_of (X := X.into _) (r := r) hC hr' (fun x => bv_initk hC) (by decide) (by decide) fun σ1 x nx N hnx => ?_
  walk_at "go"
  have I1 : σ1.I t = some (c_PriorityTree, dt) := (N.same (domI hI)).1.trans hI
  have S1 : σ1.S dt = some [] := (N.same (domS hS)).2.2.2.1.trans hS
  refine sa_step (X := X.into _) (σ₀ := σ1) (S := [dt]) (l' := [("_root_stream", .ref x)]) I1 S1 Ag.refl (by simp) f1 (by simp) (by kernel_rfl) fun σ2 I2 S2 A2 L2 D2 => ?_
  have R1 : RepS σ1 (upT (fun _ => none) x nx) := Rep.new (T := fun _ => none) ⟨fun _ _ z => (by cases z), fun _ _ _ _ z => (by cases z), fun _ _ _ _ z => (by cases z), fun _ _ _ _ z => (by cases z), fun _ _ _ _ z => (by cases z)⟩ N
  have fn := fun a (f : Foot (upT (fun _ => none) x nx) a) => foot_new (T := fun _ => none) N f
  have fno : ∀ a, Foot (upT (fun _ => none) x nx) a → ¬ σ.Dom a := fun a f => (fn a f).elim (fun z => by obtain ⟨_, _, z, _⟩ := z; cases z) id
  have R2 : RepS σ2 (upT (fun _ => none) x nx) := R1.agree fun a f => A2 a fun q => by
    rw [List.mem_singleton] at q
    subst q
    exact fno _ f (domS hS)
  have B2 := R2.at_ x nx upT_self
  walk_at "go"
  refine ga_own (v := .ref x) I2 S2 (facts_T hC).1.1 (by kernel_rfl) rfl ?_
  refine sa_act (X := X.into _) (clsS hC) B2 ?_
  have R3 := R2.setS (n' := { nx with act := false }) upT_self ⟨rfl, rfl, rfl⟩ rfl rfl
  have nd2 : nx.d ≠ dt := fun e => N.fd (e ▸ domS hS)
  have I3 : (σ2.setS nx.d (attrs { nx with act := false })).I t = some (c_PriorityTree, dt) := I2
  have S3 : (σ2.setS nx.d (attrs { nx with act := false })).S dt = some ([("_root_stream", .ref x)] : List (Str × MV)) := (up_ne _ _ (Ne.symm nd2)).trans S2
  have F3 : ∀ a, σ.Dom a → a ≠ dt → Agree σ (σ2.setS nx.d (attrs { nx with act := false })) a := fun a z ne => ((N.same z).trans (A2 a (by simpa using ne))).trans (SameOff.setS a fun e => N.fd (e ▸ z))
  have eT : upT (upT (fun _ => none) x nx) x { nx with act := false } = upT (fun _ => none) x { nx with act := false } := by
    funext z
    by_cases e : z = x
    · subst e; rw [upT_self, upT_self]
    · rw [upT_ne e, upT_ne e, upT_ne e]
  rw [eT] at R3
  generalize σ2.setS nx.d (attrs { nx with act := false }) = σ3 at R3 I3 S3 F3 ⊢
  walk_at "go"
  refine' ev_dictI ?hl ?hz ?_
  case hl => rfl
  case hz => exact ⟨by decide, by decide⟩
  refine ps_cons ?_
  walk_at "go"
  refine ga_own (v := .ref x) I3 S3 (facts_T hC).1.1 (by kernel_rfl) rfl ?_
  refine ps_nil ⟨[(0, .ref x)], rfl, fun sd hsd => ?_⟩
  have hsd0 : ¬ σ.Dom sd := fun z => by
    by_cases e : sd = dt
    · subst e; exact hsd (domS S3)
    · exact hsd ((F3 sd z e).dom.mpr z)
  walk_at "go"
  have I4 : (σ3.setD sd (putAll [(0, MV.ref x)])).I t = some (c_PriorityTree, dt) := I3
  have S4 : (σ3.setD sd (putAll [(0, MV.ref x)])).S dt = some ([("_root_stream", .ref x)] : List (Str × MV)) := S3
  refine sa_step (X := X.into _) (σ₀ := σ3.setD sd (putAll [(0, MV.ref x)])) (S := [dt]) (l' := [("_root_stream", .ref x), ("_streams", .ref sd)]) I4 S4 Ag.refl (by simp) f2 (by simp) (by kernel_rfl) fun σ5 I5 S5 A5 L5 D5 => ?_
  walk_at "go"
  refine if_dec (fun z => absurd z (by decide)) (fun _ => ?_)
  walk_at "go"
  refine sa_step (X := X.into _) (σ₀ := σ5) (S := [dt]) (l' := attrsT ⟨dt, x, sd, 1000, [(0, x)]⟩) I5 S5 Ag.refl (by simp) f3 (by simp) (by kernel_rfl) fun σ6 I6 S6 A6 L6 D6 => ?_
  walk_at "go"
  have lk : Like (upT (fun _ => none) x nx) (upT (fun _ => none) x { nx with act := false }) := by
    rw [← eT]; exact Like.up upT_self ⟨rfl, rfl, rfl⟩ rfl
  have fno' : ∀ a, Foot (upT (fun _ => none) x { nx with act := false }) a → ¬ σ.Dom a := fun a f => fno a ((lk.foot a).mp f)
  have ndt : ∀ a, Foot (upT (fun _ => none) x { nx with act := false }) a → a ≠ dt := fun a f e => fno' a f (e ▸ domS hS)
  have nsd : ∀ a, Foot (upT (fun _ => none) x { nx with act := false }) a → a ≠ sd := fun a f e => hsd (e ▸ R3.dom f)
  obtain ⟨d, c, u, rfl⟩ := hnx
  have ssd : sd ≠ dt := fun e => hsd (e ▸ domS S3)
  refine h σ6 x _ sd ⟨d, c, u, rfl⟩ ⟨?_, ⟨I6, S6, ?_⟩, fun f => fno' _ f (domI hI), fun f => ndt _ f rfl, fun f => nsd _ f rfl⟩ ?_ fno' hsd0
  · exact R3.agree fun a f => Agree.trans (Agree.trans (SameOff.setD (d := sd) a (nsd a f)) (A5 a (by simpa using ndt a f))) (A6 a (by simpa using ndt a f))
  · have e1 := (A5 sd (by simpa using ssd)).2.2.1
    have e2 := (A6 sd (by simpa using ssd)).2.2.1
    rw [e2, e1]
    exact up_self _ _ _
  · intro a z ne
    exact (((F3 a z ne).trans (SameOff.setD (d := sd) a fun e => hsd0 (e ▸ z))).trans (A5 a (by simpa using ne))).trans (A6 a (by simpa using ne))
theorem cv_tree (hC : Of X.C) {r : Nat} (hr : Room X.A (r + 7))
    (h : ∀ σ' t p x nx, p.root = x → p.mx = 1000 → p.tab = [(0, x)] → (∃ d c u, nx = ⟨d, c, u, 0, 1, .none, [], [], false, 0, 0⟩) → PtOk σ' t p (upT (fun _ => none) x nx) → Fr0 σ σ' → (∀ a, FootP t p (upT (fun _ => none) x nx) a → ¬ σ.Dom a) → K (.ref t) σ') :
    CallV X m σ (.ref c_PriorityTree) [] [] K KE := by
  obtain ⟨f1, f2, f3, _⟩ := facts_T2 hC
  refine cv_make f1 f2 f3 fun t d ht hd htd vals kw => ?_
  have hroom : X.mk1.A.depth < recursionLimit := by
    have : recursionLimit = 1000 := rfl
    have := hr.1
    show X.A.depth + 1 < _
    omega
  refine RunC.pre (cv_fnC (X := X.mk1) (m₀ := [("self", .ref t), ("maximum_streams", .int 1000)]) (ok_PriorityTree___init__ hC) hroom rfl (by kernel_rfl) (bv_tree hC) (fun L => ?_) (.ref t :: vals) kw) (fun hp z => ⟨VRs.cons VR.ofRef z.1, z.2⟩)
  have hr1 : Room X.mk1.A (r + 5) := ⟨by have := hr.1; show X.A.depth + 1 + (r + 5) ≤ 800; omega, by have := hr.2; show X.A.units + 1 + 12 * (r + 5) ≤ 9000; omega⟩
  have up : ∀ a, σ.Dom a → Agree σ ((σ.setS d []).setI t (c_PriorityTree, d)) a := fun a z => Agree.trans (SameOff.setS (d := d) a fun e => hd (e ▸ z)) (SameOff.setI (d := t) a fun e => ht (e ▸ z))
  refine init_T (X := X.mk1) (K := fun v σ' => v = .none ∧ K (.ref t) σ') hC hr1 (up_self _ _ _) (by show (MHeap.up _ _ _ _) = _; exact up_self _ _ _) htd fun σ' x nx sd hnx O F hf hsd => ⟨rfl, ?_⟩
  have sub : ∀ a, σ.Dom a → ((σ.setS d []).setI t (c_PriorityTree, d)).Dom a := fun a z => (up a z).dom.mpr z
  refine h σ' t _ x nx rfl rfl rfl hnx O (fun a z => (up a z).trans (F a (sub a z) (fun e : a = d => hd (by rw [← e]; exact z)))) ?_
  rintro a (f | rfl | rfl | rfl)
  · exact fun z => hf a f (sub a z)
  · exact ht
  · exact hd
  · exact fun z => hsd (sub _ z)
end
section
variable {X : Fx} {m : Loc} {σ : MHeap} {KE : Value → MHeap → Prop} {K : MV → MHeap → Prop}
noncomputable def im (W : List (Int × Int)) : List (Int × MV) := W.map fun e => (e.1, .int e.2)
noncomputable def wAt (W : List (Int × Int)) (k : Int) : Int := ((W.find? fun e => e.1 = k).map (·.2)).getD 0
noncomputable def nm (l : List Int) : List MV := l.map .int
noncomputable def keysOf (W : List (Int × Int)) : List Int := W.map (·.1)
theorem atK_im {W : List (Int × Int)} {k : Int} (h : k ∈ keysOf W) : atK (im W) k = some (.int (wAt W k)) := by
  induction W with
  | nil => cases h
  | cons e r ih =>
    unfold atK im wAt at ih ⊢
    rw [List.map_cons, List.find?_cons, List.find?_cons]
    by_cases q : e.1 = k
    · simp [q]
    · have : k ∈ keysOf r := by
        unfold keysOf at h ⊢
        rw [List.map_cons] at h
        rcases List.mem_cons.mp h with z | z
        · exact (q z.symm).elim
        · exact z
      simpa [q] using ih this
noncomputable def setW (W : List (Int × Int)) (k v : Int) : List (Int × Int) := if k ∈ keysOf W then W.map (fun e => if e.1 = k then (e.1, v) else e) else W ++ [(k, v)]
theorem putK_im (W : List (Int × Int)) (k v : Int) : putK (im W) k (.int v) = im (setW W k v) := by
  have ha : (im W).any (fun p => decide (p.1 = k)) = decide (k ∈ keysOf W) := by
    induction W with
    | nil => simp [im, keysOf]
    | cons e r ih =>
      unfold im keysOf at ih ⊢
      rw [List.map_cons, List.any_cons, ih, List.map_cons]
      by_cases q : e.1 = k
      · simp [q]
      · simp [q, Ne.symm q]
  unfold putK setW
  rw [ha]
  by_cases h : k ∈ keysOf W
  · rw [decide_eq_true h, if_pos rfl, if_pos h]
    unfold im
    rw [List.map_map, List.map_map]
    apply List.map_congr_left
    intro e _
    simp only [Function.comp]
    by_cases q : e.1 = k <;> simp [q]
  · rw [decide_eq_false h, if_neg h]
    simp [im]
theorem keys_setW (W : List (Int × Int)) (k v : Int) : keysOf (setW W k v) = if k ∈ keysOf W then keysOf W else keysOf W ++ [k] := by
  unfold setW
  split
  · unfold keysOf
    rw [List.map_map]
    apply List.map_congr_left
    intro e _
    simp only [Function.comp]
    split <;> rfl
  · unfold keysOf; simp
theorem wAt_setW (W : List (Int × Int)) (k v j : Int) : wAt (setW W k v) j = if j = k then v else wAt W j := by
  unfold setW
  split
  · rename_i h
    induction W with
    | nil => cases h
    | cons e r ih =>
      unfold wAt at ih ⊢
      rw [List.map_cons, List.find?_cons, List.find?_cons]
      by_cases q : e.1 = k
      · by_cases z : j = k
        · subst z; simp [q]
        · have z' : ¬ k = j := fun y => z y.symm
          simp only [q, if_pos, decide_eq_false z']
          by_cases hr : k ∈ keysOf r
          · have := ih hr; rw [if_neg z] at this; simpa [z] using this
          · have e : r.map (fun e => if e.1 = k then (e.1, v) else e) = r := by
              conv => rhs; rw [← List.map_id r]
              apply List.map_congr_left
              intro x hx
              rw [if_neg fun y => hr (by unfold keysOf; exact List.mem_map.mpr ⟨x, hx, y⟩)]; rfl
            simp [z, e]
      · have hr : k ∈ keysOf r := by
          unfold keysOf at h ⊢
          rw [List.map_cons] at h
          rcases List.mem_cons.mp h with y | y
          · exact (q y.symm).elim
          · exact y
        simp only [q, if_false]
        by_cases z : e.1 = j
        · have : j ≠ k := fun y => q (z.trans y)
          simp [z, this]
        · simpa [z] using ih hr
  · rename_i h
    unfold wAt
    rw [List.find?_append]
    by_cases z : j = k
    · subst z
      have : W.find? (fun e => decide (e.1 = j)) = none := List.find?_eq_none.mpr fun e he y => h (by unfold keysOf; exact List.mem_map.mpr ⟨e, he, by simpa using y⟩)
      rw [this]; simp
    · have z' : ¬ k = j := fun y => z y.symm
      cases W.find? (fun e => decide (e.1 = j)) <;> simp [z, z']
end
noncomputable def Kin1 (n n' : Node) : Prop := SameAt n n' ∧ n'.id = n.id ∧ n'.w = n.w ∧ n'.act = n.act ∧ n'.kids = n.kids ∧ n'.par = n.par
theorem Kin1.refl {n : Node} : Kin1 n n := ⟨⟨rfl, rfl, rfl⟩, rfl, rfl, rfl, rfl, rfl⟩
theorem Kin1.trans {a b c : Node} (p : Kin1 a b) (q : Kin1 b c) : Kin1 a c := by
  obtain ⟨⟨d1, c1, u1⟩, i1, w1, a1, k1, p1⟩ := p
  obtain ⟨⟨d2, c2, u2⟩, i2, w2, a2, k2, p2⟩ := q
  exact ⟨⟨d2.trans d1, c2.trans c1, u2.trans u1⟩, i2.trans i1, w2.trans w1, a2.trans a1, k2.trans k1, p2.trans p1⟩
structure Kin (T T' : Tree) : Prop where
  some : ∀ z n, T z = Option.some n → ∃ n', T' z = Option.some n' ∧ Kin1 n n'
  none : ∀ z, T z = Option.none → T' z = Option.none
theorem Kin.refl {T : Tree} : Kin T T := ⟨fun z n h => ⟨n, h, Kin1.refl⟩, fun _ h => h⟩
theorem Kin.trans {T T' T'' : Tree} (a : Kin T T') (b : Kin T' T'') : Kin T T'' := ⟨fun z n h => by
    obtain ⟨n', h', k⟩ := a.some z n h
    obtain ⟨n2, h2, k2⟩ := b.some z n' h'
    exact ⟨n2, h2, k.trans k2⟩, fun z h => b.none z (a.none z h)⟩
theorem Kin.like {T T' : Tree} (a : Kin T T') : Like T T' := ⟨fun z n h => by obtain ⟨n', h', k⟩ := a.some z n h; exact ⟨n', h', k.1, k.2.1⟩, a.none⟩
theorem Kin.up {T : Tree} {x : Addr} {n n' : Node} (h : T x = Option.some n) (k : Kin1 n n') : Kin T (upT T x n') := ⟨fun z m hz => by
    by_cases e : z = x
    · subst e; rw [h] at hz; cases hz; exact ⟨n', upT_self, k⟩
    · exact ⟨m, (upT_ne e).trans hz, Kin1.refl⟩, fun z hz => by
    by_cases e : z = x
    · subst e; rw [h] at hz; cases hz
    · exact (upT_ne e).trans hz⟩
noncomputable def Ranked (T : Tree) (rk : Addr → Nat) : Prop := ∀ z n, T z = some n → n.q.length ≤ 50000 ∧ ∀ e ∈ n.q, ∃ k, T e.2 = some k ∧ rk e.2 < rk z ∧ 0 < k.w
noncomputable def closeL (T : Tree) (x : Addr) : List (Int × Addr) → Tree
  | [] => T
  | (l, y) :: pp => match T x, T y with
    | some n, some k => closeL (fin1 T x y l n k) x pp
    | _, _ => T
noncomputable def popL (run : Tree → Addr → Option Int × Tree) (x : Addr) : List (Int × Addr) → Tree → List (Int × Addr) → Option Int × Tree × List (Int × Addr)
  | [], T, pp => (none, T, pp)
  | (l, y) :: q, T, pp => match T x, T y with
    | some n, some k =>
      if k.act = true then (some k.id, upT T x { n with q := q }, pp ++ [(l, y)])
      else match run (upT T x { n with q := q }) y with
        | (some i, T2) => (some i, T2, pp ++ [(l, y)])
        | (none, T2) => popL run x q T2 (pp ++ [(l, y)])
    | _, _ => (none, T, pp)
noncomputable def runN : Nat → Tree → Addr → Option Int × Tree
  | 0, T, _ => (none, T)
  | f + 1, T, x => match T x with
    | none => (none, T)
    | some n => ((popL (runN f) x n.q T []).1, closeL (popL (runN f) x n.q T []).2.1 x (popL (runN f) x n.q T []).2.2)
theorem popL_act {run : Tree → Addr → Option Int × Tree} {x y : Addr} {l : Int} {q pp : List (Int × Addr)} {T : Tree} {n k : Node} (hx : T x = some n) (hy : T y = some k) (ha : k.act = true) : popL run x ((l, y) :: q) T pp = (some k.id, upT T x { n with q := q }, pp ++ [(l, y)]) := by
  unfold popL; simp only [hx, hy, ha, if_true]
theorem popL_some {run : Tree → Addr → Option Int × Tree} {x y : Addr} {l i : Int} {q pp : List (Int × Addr)} {T T2 : Tree} {n k : Node} (hx : T x = some n) (hy : T y = some k) (ha : k.act = false) (hr : run (upT T x { n with q := q }) y = (some i, T2)) : popL run x ((l, y) :: q) T pp = (some i, T2, pp ++ [(l, y)]) := by
  unfold popL; simp only [hx, hy, ha, hr, Bool.false_eq_true, if_false]
theorem popL_none {run : Tree → Addr → Option Int × Tree} {x y : Addr} {l : Int} {q pp : List (Int × Addr)} {T T2 : Tree} {n k : Node} (hx : T x = some n) (hy : T y = some k) (ha : k.act = false) (hr : run (upT T x { n with q := q }) y = (none, T2)) : popL run x ((l, y) :: q) T pp = popL run x q T2 (pp ++ [(l, y)]) := by
  conv => lhs; unfold popL
  simp only [hx, hy, ha, hr, Bool.false_eq_true, if_false]
theorem closeL_cons {x y : Addr} {l : Int} {pp : List (Int × Addr)} {T : Tree} {n k : Node} (hx : T x = some n) (hy : T y = some k) : closeL T x ((l, y) :: pp) = closeL (fin1 T x y l n k) x pp := by
  conv => lhs; unfold closeL
  simp only [hx, hy]
theorem fin1_kin {T : Tree} {x y : Addr} {l : Int} {n k : Node} (hx : T x = some n) (hy : T y = some k) (hxy : x ≠ y) : Kin T (fin1 T x y l n k) := by
  unfold fin1
  exact (Kin.up hy (n' := { k with dft := (256 + k.dft) % k.w }) ⟨⟨rfl, rfl, rfl⟩, rfl, rfl, rfl, rfl, rfl⟩).trans (Kin.up (n := n) ((upT_ne hxy).trans hx) ⟨⟨rfl, rfl, rfl⟩, rfl, rfl, rfl, rfl, rfl⟩)
noncomputable def addrsOf (q : List (Int × Addr)) : List Addr := q.map (·.2)
theorem pushQ_addrs (idf : Addr → Int) (q : List (Int × Addr)) (it : Int × Addr) : (addrsOf (pushQ idf q it)).Perm (it.2 :: addrsOf q) := by
  unfold addrsOf pushQ
  rw [List.map_append, List.map_cons]
  refine List.perm_middle.trans ?_
  rw [← List.map_append, List.take_append_drop]
theorem closeL_ok {x : Addr} : ∀ (pp : List (Int × Addr)) (T : Tree) (n : Node), T x = some n → (∀ e ∈ pp, e.2 ≠ x ∧ ∃ k, T e.2 = some k) →
    Kin T (closeL T x pp) ∧ (∃ n', closeL T x pp x = some n' ∧ (addrsOf n'.q).Perm (addrsOf n.q ++ addrsOf pp)) ∧ (∀ z, z ≠ x → z ∉ addrsOf pp → closeL T x pp z = T z) ∧ ∀ z m, z ≠ x → T z = some m → ∃ m', closeL T x pp z = some m' ∧ m'.q = m.q
  | [], T, n, hx, _ => ⟨Kin.refl, ⟨n, hx, by simp [addrsOf]⟩, fun _ _ _ => rfl, fun z m _ h => ⟨m, h, rfl⟩⟩
  | (l, y) :: pp, T, n, hx, h => by
    obtain ⟨hyx, k, hy⟩ := h (l, y) (.head _)
    replace hyx : y ≠ x := hyx
    have kn := fin1_kin (l := l) hx hy (Ne.symm hyx)
    have far : ∀ z, z ≠ x → z ≠ y → fin1 T x y l n k z = T z := fun z h1 h2 => by unfold fin1; rw [upT_ne h1, upT_ne h2]
    have aty : fin1 T x y l n k y = some { k with dft := (256 + k.dft) % k.w } := by unfold fin1; rw [upT_ne hyx, upT_self]
    have atx : fin1 T x y l n k x = some { n with last := l, q := pushQ (idT T) n.q (l + (256 + k.dft) / k.w, y) } := upT_self
    obtain ⟨a, ⟨n', b1, b2⟩, c, d⟩ := closeL_ok pp _ _ atx fun e he => by
      obtain ⟨p1, k', p2⟩ := h e (.tail _ he)
      obtain ⟨k2, p3, _⟩ := kn.some _ _ p2
      exact ⟨p1, k2, p3⟩
    rw [closeL_cons hx hy]
    refine ⟨kn.trans a, ⟨n', b1, b2.trans ?_⟩, fun z h1 h2 => ?_, fun z m h1 hz => ?_⟩
    · refine ((pushQ_addrs _ _ _).append_right _).trans ?_
      show (y :: addrsOf n.q ++ addrsOf pp).Perm (addrsOf n.q ++ (y :: addrsOf pp))
      exact List.perm_middle.symm
    · have h2' : z ≠ y ∧ z ∉ addrsOf pp := by
        unfold addrsOf at h2 ⊢
        rw [List.map_cons, List.mem_cons, not_or] at h2
        exact h2
      rw [c z h1 h2'.2, far z h1 h2'.1]
    · by_cases e : z = y
      · subst e
        rw [hy] at hz; cases hz
        obtain ⟨m', d1, d2⟩ := d z _ h1 aty
        exact ⟨m', d1, d2⟩
      · obtain ⟨m', d1, d2⟩ := d z m h1 ((far z h1 e).trans hz)
        exact ⟨m', d1, d2⟩
structure Alike (T T' : Tree) : Prop where
  kin : Kin T T'
  perm : ∀ z n n', T z = some n → T' z = some n' → (addrsOf n'.q).Perm (addrsOf n.q)
theorem Ranked.alike {T T' : Tree} {rk : Addr → Nat} (o : Ranked T rk) (a : Alike T T') : Ranked T' rk := fun z n' hz => by
  cases h : T z with
  | none => rw [a.kin.none z h] at hz; cases hz
  | some n =>
    obtain ⟨l, ent⟩ := o z n h
    have p := a.perm z n n' h hz
    refine ⟨by have := p.length_eq; unfold addrsOf at this; rw [List.length_map, List.length_map] at this; omega, fun e he => ?_⟩
    have m : e.2 ∈ addrsOf n.q := p.mem_iff.mp (List.mem_map.mpr ⟨e, he, rfl⟩)
    obtain ⟨e0, h0, q⟩ := List.mem_map.mp m
    obtain ⟨k, hk, hr, hw⟩ := ent e0 h0
    rw [q] at hk hr
    obtain ⟨k', hk', kk⟩ := a.kin.some _ _ hk
    exact ⟨k', hk', hr, by rw [kk.2.2.1]; exact hw⟩
theorem Ranked.cut {T : Tree} {rk : Addr → Nat} (o : Ranked T rk) {x : Addr} {n : Node} {q : List (Int × Addr)} (hx : T x = some n) (hq : ∃ a, n.q = a ++ q) : Ranked (upT T x { n with q := q }) rk := fun z m hz => by
  have ex : ∀ {e : Addr} {k : Node}, T e = some k → ∃ k', upT T x { n with q := q } e = some k' ∧ k'.w = k.w := fun {e k} h => by
    by_cases q : e = x
    · subst q; rw [hx] at h; cases h; exact ⟨_, upT_self, rfl⟩
    · exact ⟨k, (upT_ne q).trans h, rfl⟩
  by_cases e : z = x
  · subst e
    rw [upT_self] at hz; cases hz
    obtain ⟨l, ent⟩ := o z n hx
    obtain ⟨a, ha⟩ := hq
    refine ⟨?_, fun e he => ?_⟩
    · show q.length ≤ _
      rw [ha, List.length_append] at l; omega
    · obtain ⟨k, hk, hr, hw⟩ := ent e (by rw [ha]; exact List.mem_append_right _ he)
      obtain ⟨k', hk', w'⟩ := ex hk
      exact ⟨k', hk', hr, by rw [w']; exact hw⟩
  · rw [upT_ne e] at hz
    obtain ⟨l, ent⟩ := o z m hz
    refine ⟨l, fun e he => ?_⟩
    obtain ⟨k, hk, hr, hw⟩ := ent e he
    obtain ⟨k', hk', w'⟩ := ex hk
    exact ⟨k', hk', hr, by rw [w']; exact hw⟩
noncomputable def RunOk (rk : Addr → Nat) (f : Nat) (run : Tree → Addr → Option Int × Tree) : Prop := ∀ T y n, Ranked T rk → rk y < f → T y = some n → Alike T (run T y).2 ∧ ∀ z, rk y < rk z → (run T y).2 z = T z
structure Popped (T T' : Tree) (x : Addr) (n : Node) (q' : List (Int × Addr)) (rk : Addr → Nat) : Prop where
  at_ : T' x = some { n with q := q' }
  off : ∀ z m, z ≠ x → T z = some m → ∃ m', T' z = some m' ∧ Kin1 m m' ∧ (addrsOf m'.q).Perm (addrsOf m.q)
  non : ∀ z, T z = none → T' z = none
  far : ∀ z, rk x < rk z → T' z = T z
  ok : Ranked T' rk
theorem popL_ok {rk : Addr → Nat} {f : Nat} {run : Tree → Addr → Option Int × Tree} (ro : RunOk rk f run) {x : Addr} {n : Node} (hf : rk x ≤ f) : ∀ (q : List (Int × Addr)) (T : Tree) (pp : List (Int × Addr)), T x = some { n with q := q } → Ranked T rk →
    ∃ tk q', q = tk ++ q' ∧ (popL run x q T pp).2.2 = pp ++ tk ∧ Popped T (popL run x q T pp).2.1 x n q' rk
  | [], T, pp, hx, o => ⟨[], [], rfl, by simp [popL], hx, fun z m _ h => ⟨m, h, Kin1.refl, .refl _⟩, fun _ h => h, fun _ _ => rfl, o⟩
  | (l, y) :: q, T, pp, hx, o => by
    obtain ⟨k, hy, hr, hw⟩ := (o x _ hx).2 (l, y) (.head _)
    replace hy : T y = some k := hy
    replace hr : rk y < rk x := hr
    have hyx : y ≠ x := fun e => by rw [e] at hr; exact absurd hr (Nat.lt_irrefl _)
    have o1 := o.cut hx ⟨[(l, y)], rfl⟩
    have up1 : Popped T (upT T x { n with q := q }) x n q rk := ⟨upT_self, fun z m h1 h2 => ⟨m, (upT_ne h1).trans h2, Kin1.refl, .refl _⟩, fun z h => by
      by_cases e : z = x
      · subst e; rw [hx] at h; cases h
      · exact (upT_ne e).trans h, fun z h => upT_ne fun e => by rw [e] at h; exact absurd h (Nat.lt_irrefl _), o1⟩
    cases ha : k.act with
    | true =>
      rw [popL_act hx hy ha]
      exact ⟨[(l, y)], q, rfl, rfl, up1⟩
    | false =>
      have hy1 : upT T x { n with q := q } y = some k := (upT_ne hyx).trans hy
      obtain ⟨al, fr⟩ := ro _ y k o1 (by omega) hy1
      have step : Popped T (run (upT T x { n with q := q }) y).2 x n q rk := by
        refine ⟨(fr x hr).trans upT_self, fun z m h1 h2 => ?_, fun z h => al.kin.none z (up1.non z h), fun z h => (fr z (by omega)).trans (up1.far z h), o1.alike al⟩
        obtain ⟨m', h3, k3⟩ := al.kin.some z m ((upT_ne h1).trans h2)
        exact ⟨m', h3, k3, al.perm z m m' ((upT_ne h1).trans h2) h3⟩
      cases hr2 : run (upT T x { n with q := q }) y with
      | mk r T2 =>
        rw [hr2] at step
        cases r with
        | some i =>
          rw [popL_some hx hy ha hr2]
          exact ⟨[(l, y)], q, rfl, rfl, step⟩
        | none =>
          rw [popL_none hx hy ha hr2]
          obtain ⟨tk, q', e1, e2, P⟩ := popL_ok ro hf q T2 (pp ++ [(l, y)]) step.at_ step.ok
          refine ⟨(l, y) :: tk, q', by rw [e1]; rfl, by rw [e2, List.append_assoc]; rfl, P.at_, fun z m h1 h2 => ?_, fun z h => P.non z (step.non z h), fun z h => (P.far z h).trans (step.far z h), P.ok⟩
          obtain ⟨m1, a1, a2, a3⟩ := step.off z m h1 h2
          obtain ⟨m2, b1, b2, b3⟩ := P.off z m1 h1 a1
          exact ⟨m2, b1, a2.trans b2, b3.trans a3⟩
theorem runN_ok (rk : Addr → Nat) : ∀ f, RunOk rk f (runN f)
  | 0 => fun T y n _ h _ => absurd h (Nat.not_lt_zero _)
  | f + 1 => fun T x n o hf hx => by
    have e : runN (f + 1) T x = ((popL (runN f) x n.q T []).1, closeL (popL (runN f) x n.q T []).2.1 x (popL (runN f) x n.q T []).2.2) := by
      conv => lhs; unfold runN
      simp only [hx]
    rw [e]
    obtain ⟨tk, q', e1, e2, P⟩ := popL_ok (runN_ok rk f) (n := n) (by omega) n.q T [] hx o
    rw [e2, List.nil_append]
    have ent : ∀ e ∈ tk, e.2 ≠ x ∧ rk e.2 < rk x ∧ ∃ k, (popL (runN f) x n.q T []).2.1 e.2 = some k := fun e he => by
      obtain ⟨k, hk, hr, _⟩ := (o x n hx).2 e (by rw [e1]; exact List.mem_append_left _ he)
      have ne : e.2 ≠ x := fun q => by rw [q] at hr; exact absurd hr (Nat.lt_irrefl _)
      obtain ⟨m', h', _⟩ := P.off _ _ ne hk
      exact ⟨ne, hr, m', h'⟩
    obtain ⟨c1, ⟨n', c2, c3⟩, c4, c5⟩ := closeL_ok tk _ _ P.at_ fun e he => ⟨(ent e he).1, (ent e he).2.2⟩
    have k0 : Kin T (popL (runN f) x n.q T []).2.1 := ⟨fun z m hz => by
      by_cases e : z = x
      · subst e; rw [hx] at hz; cases hz; exact ⟨_, P.at_, ⟨⟨rfl, rfl, rfl⟩, rfl, rfl, rfl, rfl, rfl⟩⟩
      · obtain ⟨m', h', k', _⟩ := P.off z m e hz; exact ⟨m', h', k'⟩, P.non⟩
    refine ⟨⟨k0.trans c1, fun z m m' hz hz' => ?_⟩, fun z h => ?_⟩
    · dsimp only at hz'
      by_cases e : z = x
      · subst e
        rw [hx] at hz; cases hz
        rw [c2] at hz'; cases hz'
        refine c3.trans ?_
        show (addrsOf q' ++ addrsOf tk).Perm _
        rw [e1]
        unfold addrsOf
        rw [List.map_append]
        exact List.perm_append_comm
      · obtain ⟨m1, a1, a2, a3⟩ := P.off z m e hz
        obtain ⟨m2, b1, b2⟩ := c5 z m1 e a1
        rw [hz'] at b1; cases b1
        rw [b2]; exact a3
    · have ne : z ≠ x := fun e => by rw [e] at h; exact absurd h (Nat.lt_irrefl _)
      dsimp only
      rw [c4 z ne, P.far z h]
      intro m
      obtain ⟨e, he, q⟩ := List.mem_map.mp m
      have := (ent e he).2.1
      rw [q] at this
      omega
noncomputable def finOf : List Stmt → List Stmt
  | [_, _, _, .Try _ _ _ f _, _] => f
  | _ => []
noncomputable def finFor : Stmt := (finOf (fnBody (stIn 14 6))).headD (.Pass ⟨0, 0, 0, 0⟩)
section
variable {T : Tree}
theorem fin_suite {C : Cx} {A : Around} {fs : List Env} {L : Addr} (hC : Of C) {r : Nat} (hr : Room A (r + 3)) {x pl : Addr} {n : Node} {pp : List (Int × Addr)} {v : MV} {m : Loc} {σ : MHeap} {K : FlowM → Loc → MHeap → Prop} {KE : Value → Loc → MHeap → Prop}
    (R : RepS σ T) (hx : T x = some n) (hpl : σ.L pl = some (qm pp)) (npl : ¬ Foot T pl) (hz : n.q.length + pp.length ≤ 60000) (hpp : ∀ e ∈ pp, e.2 ≠ x ∧ ∃ k, T e.2 = some k ∧ 0 < k.w) (hqq : ∀ e ∈ n.q, ∃ k, T e.2 = some k)
    (hb : ([("popped_streams", .ref pl), ("next_stream", v), ("self", .ref x)] : Loc) <:+ m)
    (h : ∀ m' σ', ([("popped_streams", .ref pl), ("next_stream", v), ("self", .ref x)] : Loc) <:+ m' → RepS σ' (closeL T x pp) → Off T σ σ' → K .next m' σ') :
    Run1 ⟨C, A, fs, callEnv (d_Stream_schedule C) L a_Stream_schedule⟩ m σ finFor K KE := by
  have hC' : Of (⟨C, A, fs, callEnv (d_Stream_schedule C) L a_Stream_schedule⟩ : Fx).C := hC
  refine RunL.forget hb ?_
  conv in finFor => whnf
  refine r1_For_listA (fun j m' σ' => ([("popped_streams", .ref pl), ("next_stream", v), ("self", .ref x)] : Loc) <:+ m' ∧ j ≤ pp.length ∧ ∃ Tj nj, RepS σ' Tj ∧ Tj x = some nj ∧ closeL T x pp = closeL Tj x (pp.drop j) ∧ Kin T Tj ∧ nj.q.length ≤ n.q.length + j ∧ (∀ e ∈ nj.q, ∃ k, Tj e.2 = some k) ∧ σ'.L pl = some (qm pp) ∧ Off T σ σ') pp.length (fun _ => rfl) ?_
  walk_at "ex"
  refine ⟨pl, rfl, ⟨List.suffix_refl _, Nat.zero_le _, T, n, R, hx, rfl, Kin.refl, Nat.le_refl _, hqq, hpl, Off.refl⟩, fun j m' σ' q => q.2.1, ?_⟩
  rintro j m' σ1 ⟨hb1, hj, Tj, nj, Rj, hxj, hcl, kin, hlen, hent, hpl1, O1⟩
  refine ⟨qm pp, hpl1, fun w hw => ?_, fun hw => ?_⟩
  · have hj' : j < pp.length := by
      have := (List.getElem?_eq_some_iff.mp hw).1
      rwa [qm_len] at this
    obtain ⟨⟨l, y⟩, hly⟩ : ∃ e, pp[j] = e := ⟨_, rfl⟩
    have hw' : w = .tup [.int l, .ref y] := by
      rw [qm_get (y := (l, y)) (by rw [List.getElem?_eq_getElem hj', hly])] at hw
      exact (Option.some.inj hw).symm
    subst hw'
    obtain ⟨hyx, k0, hk0, hw0⟩ := hpp (l, y) (by rw [← hly]; exact List.getElem_mem hj')
    replace hyx : y ≠ x := hyx
    obtain ⟨kj, hyj, kk⟩ := kin.some _ _ hk0
    replace hyj : Tj y = some kj := hyj
    have wj : 0 < kj.w := by rw [kk.2.2.1]; exact hw0
    rw [List.drop_eq_getElem_cons hj', hly, closeL_cons hxj hyj] at hcl
    refine AsT.forget hb1 ?_
    refine as_tupleA rfl rfl ?_
    walk_at "go"
    have Ax := Rj.at_ x nj hxj
    refine sa_last (X := ⟨C, A, fs, callEnv (d_Stream_schedule C) L a_Stream_schedule⟩) (clsS hC) Ax ?_
    have R3 := Rj.setS (n' := { nj with last := l }) hxj ⟨rfl, rfl, rfl⟩ rfl rfl
    have O3 : Off T σ (σ1.setS nj.d (attrs { nj with last := l })) := O1.trans (kin.like.off (SameOff.setS.off (foot_d hxj)))
    have hy3 : upT Tj x { nj with last := l } y = some kj := (upT_ne hyx).trans hyj
    have A3 := R3.at_ y kj hy3
    have P3 : (σ1.setS nj.d (attrs { nj with last := l })).L pl = some (qm pp) := hpl1
    generalize σ1.setS nj.d (attrs { nj with last := l }) = σ3 at R3 O3 A3 P3 ⊢
    walk_at "go"
    refine ga_weight (X := ⟨C, A, fs, callEnv (d_Stream_schedule C) L a_Stream_schedule⟩) (r := r + 2) hC hr A3 ?_
    refine o_fdiv (X := ⟨C, A, fs, callEnv (d_Stream_schedule C) L a_Stream_schedule⟩) wj hr ?_
    walk_at "go"
    refine ga_weight (X := ⟨C, A, fs, callEnv (d_Stream_schedule C) L a_Stream_schedule⟩) (r := r + 2) hC hr A3 ?_
    refine o_mod wj ?_
    walk_at "go"
    refine sa_dft (X := ⟨C, A, fs, callEnv (d_Stream_schedule C) L a_Stream_schedule⟩) (clsS hC) A3 ?_
    have R4 := R3.setS (n' := { kj with dft := (256 + kj.dft) % kj.w }) hy3 ⟨rfl, rfl, rfl⟩ rfl rfl
    have l3 : Like Tj (upT Tj x { nj with last := l }) := Like.up hxj ⟨rfl, rfl, rfl⟩ rfl
    have O4 : Off T σ (σ3.setS kj.d (attrs { kj with dft := (256 + kj.dft) % kj.w })) := O3.trans ((kin.like.trans l3).off (SameOff.setS.off (foot_d hy3)))
    have hx4 : upT (upT Tj x { nj with last := l }) y { kj with dft := (256 + kj.dft) % kj.w } x = some { nj with last := l } := (upT_ne (Ne.symm hyx)).trans upT_self
    have P4 : (σ3.setS kj.d (attrs { kj with dft := (256 + kj.dft) % kj.w })).L pl = some (qm pp) := P3
    have l4 : Like Tj (upT (upT Tj x { nj with last := l }) y { kj with dft := (256 + kj.dft) % kj.w }) := l3.trans (Like.up hy3 ⟨rfl, rfl, rfl⟩ rfl)
    generalize σ3.setS kj.d (attrs { kj with dft := (256 + kj.dft) % kj.w }) = σ4 at R4 O4 P4 ⊢
    have A4 := R4.at_ x _ hx4
    walk_at "go"
    refine ⟨by simp, ?_⟩
    walk_at "go"
    have hid : ∀ e k, Tj e = some k → ∃ n, St σ4 e n ∧ n.id = idT Tj e := fun e k he => by
      obtain ⟨n', h', _, i⟩ := l4.some e k he
      exact ⟨n', R4.at_ e n' h', by rw [i, idT_of he]⟩
    refine sp_push (X := ⟨C, A, fs, callEnv (d_Stream_schedule C) L a_Stream_schedule⟩) (idf := idT Tj) (r := r) hC hr A4.Q (by show nj.q.length ≤ _; omega) (hid y kj hyj) (fun e he => by obtain ⟨k, hk⟩ := hent e he; exact hid e.2 k hk) ?_
    have R5 := R4.setQ hx4 (pushQ (idT Tj) nj.q (l + (256 + kj.dft) / kj.w, y))
    refine ⟨noref_none, ?_⟩
    walk_at "go"
    have eT : upT (upT (upT Tj x { nj with last := l }) y { kj with dft := (256 + kj.dft) % kj.w }) x { nj with last := l, q := pushQ (idT Tj) nj.q (l + (256 + kj.dft) / kj.w, y) } = fin1 Tj x y l nj kj := by
      funext z
      unfold fin1
      by_cases e : z = x
      · subst e; rw [upT_self, upT_self]
      · rw [upT_ne e, upT_ne e]
        by_cases e' : z = y
        · subst e'; rw [upT_self, upT_self]
        · rw [upT_ne e', upT_ne e', upT_ne e]
    have R6 := R5
    rw [eT] at R6
    have kf := fin1_kin (l := l) hxj hyj (Ne.symm hyx)
    refine ⟨?_, hj', _, _, R6, upT_self, hcl, kin.trans kf, ?_, fun e he => ?_, ?_, ?_⟩
    · exact (List.suffix_cons (⟨"level", .int (l + (256 + kj.dft) / kj.w)⟩ : Str × MV) _).trans (List.suffix_cons _ _)
    · show (pushQ _ _ _).length ≤ _
      unfold pushQ
      rw [List.length_append, List.length_cons, List.length_take, List.length_drop]
      have := dn_le (idT Tj) (l + (256 + kj.dft) / kj.w, y) nj.q nj.q.length
      omega
    · have ex : ∀ a k, Tj a = some k → ∃ k, fin1 Tj x y l nj kj a = some k := fun a k ha => by obtain ⟨k', h', _⟩ := kf.some a k ha; exact ⟨k', h'⟩
      have : e.2 ∈ addrsOf (pushQ (idT Tj) nj.q (l + (256 + kj.dft) / kj.w, y)) := List.mem_map.mpr ⟨e, he, rfl⟩
      rcases List.mem_cons.mp ((pushQ_addrs _ _ _).mem_iff.mp this) with q | q
      · rw [q]; exact ex y kj hyj
      · obtain ⟨e0, h0, q0⟩ := List.mem_map.mp q
        obtain ⟨k, hk⟩ := hent e0 h0
        rw [← q0]; exact ex _ k hk
    · refine (up_ne _ _ fun e => ?_).trans P4
      have e : pl = nj.u := e
      exact npl ((kin.like.foot _).mp (e ▸ foot_u hxj))
    · exact O4.trans (kin.like.off (SameOff.setL.off (d := nj.u) (foot_u hxj)))
  · have hjl : j = pp.length := by
      rw [List.getElem?_eq_none_iff, qm_len] at hw
      omega
    subst hjl
    rw [List.drop_length] at hcl
    walk_at "go"
    refine h m' σ1 hb1 ?_ O1
    rw [hcl]; exact Rj
end
section
theorem hit_index {C : Cx} : Hit C (.type "IndexError") (.type "IndexError") true := hit_of (by kernel_rfl) (by kernel_rfl) (by kernel_rfl)
theorem sp_pop0 {X : Fx} {m : Loc} {σ : MHeap} {KE : Value → MHeap → Prop} {K : MV → MHeap → Prop} (hC : Of X.C) {r : Nat} (hr : Room X.A (r + 1)) {u : Addr} (hu : σ.L u = some (qm [])) (h : KE (.type "IndexError") σ) : CallV X m σ (.ref a_heappop) [.ref u] [] K KE := by
  refine cv_fn (ok_heappop hC) hr.depth (m₀ := [("queue", .ref u)]) rfl (by kernel_rfl) (b1 fun v => by kernel_rfl) fun L => ?_
  conv in fnBody _ => whnf
  walk_at "go"
  refine gm_list hu PySem.F.slot_list_pop PySem.F.type_list_pop ?_
  walk_at "go"
  exact cv_pop0_empty hu h
theorem sp_sched (rk : Addr → Nat) : ∀ (f : Nat) ⦃X : Fx⦄ ⦃m : Loc⦄ ⦃σ : MHeap⦄ ⦃KE : Value → MHeap → Prop⦄ ⦃K : MV → MHeap → Prop⦄ ⦃T : Tree⦄ ⦃x : Addr⦄ ⦃n : Node⦄ (hC : Of X.C) (hh : X.A.handled = none) (hr : Room X.A (f + 4)) (o : Ranked T rk) (hf : rk x < f) (R : RepS σ T) (hx : T x = some n) (hn : n.act = false)
    (h : ∀ σ', RepS σ' (runN f T x).2 → Off T σ σ' → match (runN f T x).1 with | some i => K (.int i) σ' | none => KE (.type "IndexError") σ'), CallV X m σ (.ref a_Stream_schedule) [.ref x] [] K KE
  | 0 => by
    intro X m σ KE K T x n hC hh hr o hf
    exact absurd hf (Nat.not_lt_zero _)
  | f + 1 => by
    intro X m σ KE K T x n hC hh hr o hf R hx hn h
    have ro := runN_ok rk f
    have eR : runN (f + 1) T x = ((popL (runN f) x n.q T []).1, closeL (popL (runN f) x n.q T []).2.1 x (popL (runN f) x n.q T []).2.2) := by
      conv => lhs; unfold runN
      simp only [hx]
    rw [eR] at h
    dsimp only at h
    have l50 := (o x n hx).1
    have Pk : ∀ T' q', Popped T T' x n q' rk → Kin T T' := fun T' q' P => ⟨fun z m hz => by
      by_cases e : z = x
      · subst e; rw [hx] at hz; cases hz; exact ⟨_, P.at_, ⟨rfl, rfl, rfl⟩, rfl, rfl, rfl, rfl, rfl⟩
      · obtain ⟨m', h', k', _⟩ := P.off z m e hz; exact ⟨m', h', k'⟩, P.non⟩
    have hfin : ∀ T' tk q', n.q = tk ++ q' → Popped T T' x n q' rk → q'.length + tk.length ≤ 60000 ∧ (∀ e ∈ tk, e.2 ≠ x ∧ ∃ k, T' e.2 = some k ∧ 0 < k.w) ∧ ∀ e ∈ q', ∃ k, T' e.2 = some k := fun T' tk q' e1 P => by
      have ent : ∀ e ∈ n.q, e.2 ≠ x ∧ ∃ k, T' e.2 = some k ∧ 0 < k.w := fun e he => by
        obtain ⟨k, hk, hr, hw⟩ := (o x n hx).2 e he
        have ne : e.2 ≠ x := fun q => by rw [q] at hr; exact absurd hr (Nat.lt_irrefl _)
        obtain ⟨m', h', k', _⟩ := P.off _ _ ne hk
        exact ⟨ne, m', h', by rw [k'.2.2.1]; exact hw⟩
      refine ⟨?_, fun e he => ent e (by rw [e1]; exact List.mem_append_left _ he), fun e he => ?_⟩
      · have := l50; rw [e1, List.length_append] at this; omega
      · obtain ⟨_, k, hk, _⟩ := ent e (by rw [e1]; exact List.mem_append_right _ he)
        exact ⟨k, hk⟩
    refine cv_fn (ok_Stream_schedule hC) hr.depth (m₀ := [("self", .ref x)]) rfl (by kernel_rfl) (b1 fun v => by kernel_rfl) fun L => ?_
    have hr' : Room (X.into (callEnv (d_Stream_schedule X.C) L a_Stream_schedule)).A (f + 4) := hr.deeper (callEnv (d_Stream_schedule X.C) L a_Stream_schedule)
    have A0 := R.at_ x n hx
    conv in fnBody _ => whnf
    walk_at "go"
    rw [hn]
    refine ⟨rfl, ?_⟩
    walk_at "go"
    refine ⟨by simp, fun pl hpl => ?_⟩
    have O1 : Off T σ (σ.setL pl []) := SameOff.setL.offNew hpl
    have fpl : ∀ T', Like T T' → ¬ Foot T' pl := fun T' li f => hpl (R.dom ((li.foot pl).mp f))
    have R1 := R.newOff (SameOff.setL (x := [])) hpl
    have P1 : (σ.setL pl []).L pl = some (qm []) := up_self _ _ _
    generalize σ.setL pl [] = σ1 at R1 O1 P1 ⊢
    walk_at "go"
    refine r1_Fin (fun ex m' σ' => ex = .type "IndexError" ∧ ([("popped_streams", .ref pl), ("next_stream", .none), ("self", .ref x)] : Loc) <:+ m' ∧ ∃ T' pp, popL (runN f) x n.q T [] = (none, T', pp) ∧ RepS σ' T' ∧ σ'.L pl = some (qm pp) ∧ Off T σ σ') ?_ ?_
    · walk_at "go"
      refine r1_While (fun k m' σ' => (∃ q pp T', k = q.length + 1 ∧ (∃ pre, n.q = pre ++ q ∧ pp = pre) ∧ popL (runN f) x n.q T [] = popL (runN f) x q T' pp ∧ ([("popped_streams", .ref pl), ("next_stream", .none), ("self", .ref x)] : Loc) <:+ m' ∧ RepS σ' T' ∧ T' x = some { n with q := q } ∧ Kin T T' ∧ Ranked T' rk ∧ σ'.L pl = some (qm pp) ∧ Off T σ σ') ∨
        (∃ i T' pp, k = 0 ∧ popL (runN f) x n.q T [] = (some i, T', pp) ∧ ([("popped_streams", .ref pl), ("next_stream", .int i), ("self", .ref x)] : Loc) <:+ m' ∧ RepS σ' T' ∧ σ'.L pl = some (qm pp) ∧ Off T σ σ')) (n.q.length + 1) (.inl ⟨n.q, [], T, rfl, ⟨[], rfl, rfl⟩, rfl, List.suffix_refl _, R1, hx, Kin.refl, o, P1, O1⟩) ?_
      rintro k m' σ2 (⟨q, pp, T', rfl, hpre, hpop, hb, R2, hx2, kin, o2, P2, O2⟩ | ⟨i, T', pp, rfl, hpop, hb, R2, P2, O2⟩)
      · refine RunE.forget hb ?_
        walk_at "go"
        refine if_tt ?_
        refine RunL.forget hb ?_
        have A2 := R2.at_ x _ hx2
        walk_at "go"
        cases q with
        | nil =>
          refine sp_pop0 (X := X.into _) (r := f + 3) hC hr' A2.Q ?_
          exact ⟨rfl, List.suffix_refl _, T', pp, hpop, R2, P2, O2⟩
        | cons e q =>
          obtain ⟨l, y⟩ := e
          obtain ⟨k, hy, hry, hwy⟩ := (o2 x _ hx2).2 (l, y) (.head _)
          replace hy : T' y = some k := hy
          replace hry : rk y < rk x := hry
          have hyx : y ≠ x := fun e => by rw [e] at hry; exact absurd hry (Nat.lt_irrefl _)
          have hql : q.length ≤ 50000 := by
            obtain ⟨pre, e1, _⟩ := hpre
            rw [e1, List.length_append, List.length_cons] at l50; omega
          have hppl : pp.length ≤ 50000 := by
            obtain ⟨pre, e1, e2⟩ := hpre
            rw [e2]; rw [e1, List.length_append] at l50; omega
          refine sp_pop (X := X.into _) (u := n.u) (y := (l, y)) (q := q) (r := f + 3) hC hr' A2.Q (by omega) ?_
          have R3 := R2.setQ hx2 q
          have o3 := o2.cut hx2 ⟨[(l, y)], rfl⟩
          have k3 : Kin T' (upT T' x { n with q := q }) := Kin.up hx2 ⟨⟨rfl, rfl, rfl⟩, rfl, rfl, rfl, rfl, rfl⟩
          have npl : n.u ≠ pl := fun e => hpl (e ▸ R.dom (foot_u hx))
          have O3 : Off T σ (σ2.setL n.u (qm q)) := O2.trans (SameOff.setL.off (foot_u hx))
          have P3 : (σ2.setL n.u (qm q)).L pl = some (qm pp) := (up_ne _ _ (Ne.symm npl)).trans P2
          replace R3 : RepS (σ2.setL n.u (qm q)) (upT T' x { n with q := q }) := R3
          generalize σ2.setL n.u (qm q) = σ3 at R3 O3 P3 ⊢
          walk_at "go"
          refine gm_list P3 PySem.F.slot_list_append PySem.F.type_list_append ?_
          walk_at "go"
          refine cv_append P3 (by rw [qm_len]; omega) ?_
          rw [show qm pp ++ [MV.tup [.int l, .ref y]] = qm (pp ++ [(l, y)]) from by unfold qm; simp]
          have R4 : RepS (σ3.setL pl (qm (pp ++ [(l, y)]))) (upT T' x { n with q := q }) := R3.agree fun a fo => SameOff.setL a fun e => fpl _ (kin.trans k3).like (e ▸ fo)
          have O4 : Off T σ (σ3.setL pl (qm (pp ++ [(l, y)]))) := fun a d fo => (O3 a d fo).trans (SameOff.setL a fun e => hpl (e ▸ d))
          have P4 : (σ3.setL pl (qm (pp ++ [(l, y)]))).L pl = some (qm (pp ++ [(l, y)])) := up_self _ _ _
          refine ⟨noref_none, ?_⟩
          show seqK _ _ _ _ _ _ (σ3.setL pl (qm (pp ++ [(l, y)])))
          generalize σ3.setL pl (qm (pp ++ [(l, y)])) = σ4 at R4 O4 P4 ⊢
          have hy4 : upT T' x { n with q := q } y = some k := (upT_ne hyx).trans hy
          have A4 := R4.at_ y k hy4
          walk_at "go"
          refine as_tupleA rfl rfl ?_
          walk_at "go"
          refine if_bool (fun ha => ?_) (fun ha => ?_)
          · rw [popL_act hx2 hy ha] at hpop
            walk_at "go"
            refine wk_next 0 (Nat.succ_pos _) (.inr ⟨k.id, _, _, rfl, hpop, ?_, R4, P4, O4⟩)
            exact ((List.suffix_cons (⟨"val", .tup [.int l, .ref y]⟩ : Str × MV) _).trans (List.suffix_cons (⟨"level", .int l⟩ : Str × MV) _)).trans (List.suffix_cons _ _)
          · walk_at "go"
            refine r1_Try (fun ex m' σ' => ex = .type "IndexError" ∧ ([("popped_streams", .ref pl), ("next_stream", .none), ("self", .ref x)] : Loc) <:+ m' ∧ ∃ T2, runN f (upT T' x { n with q := q }) y = (none, T2) ∧ RepS σ' T2 ∧ σ'.L pl = some (qm (pp ++ [(l, y)])) ∧ Off T σ σ') ?_ ?_
            · walk_at "go"
              refine gm_sched (X := X.into _) hC A4 ?_
              walk_at "go"
              refine sp_sched rk f (X := X.into _) hC hh hr' o3 (show rk y < f by omega) R4 hy4 ha fun σ5 R5 O5 => ?_
              have d4 : σ4.Dom pl := domL P4
              have P5 : σ5.L pl = some (qm (pp ++ [(l, y)])) := (O5 pl d4 (fpl _ (kin.trans k3).like)).2.1.trans P4
              have O6 : Off T σ σ5 := O4.trans ((kin.trans k3).like.off O5)
              cases hrun : runN f (upT T' x { n with q := q }) y with
              | mk r T2 =>
                rw [hrun] at R5
                cases r with
                | some i =>
                  rw [popL_some hx2 hy ha hrun] at hpop
                  dsimp only
                  walk_at "go"
                  refine wk_next 0 (Nat.succ_pos _) (.inr ⟨i, _, _, rfl, hpop, ?_, R5, P5, O6⟩)
                  exact ((List.suffix_cons (⟨"val", .tup [.int l, .ref y]⟩ : Str × MV) _).trans (List.suffix_cons (⟨"level", .int l⟩ : Str × MV) _)).trans (List.suffix_cons _ _)
                | none =>
                  refine ⟨rfl, ?_, T2, rfl, R5, P5, O6⟩
                  exact ((List.suffix_cons (⟨"val", .tup [.int l, .ref y]⟩ : Str × MV) _).trans (List.suffix_cons (⟨"level", .int l⟩ : Str × MV) _)).trans (List.suffix_cons _ _)
            · rintro ev ex m5 σ5 ⟨rfl, hb5, T2, hrun, R5, P5, O5⟩
              obtain ⟨al, fr⟩ := ro _ y k o3 (show rk y < f by omega) hy4
              rw [hrun] at al fr
              rw [popL_none hx2 hy ha hrun] at hpop
              unfold HandleM
              walk_at "nm"
              refine ⟨_, true, rfl, hit_index, rfl, ?_⟩
              rw [if_pos rfl]
              refine RunL.forget hb5 ?_
              walk_at "go"
              refine wk_cont (q.length + 1) (Nat.lt_succ_self _) (.inl ⟨q, pp ++ [(l, y)], T2, rfl, ?_, hpop, List.suffix_refl _, R5, (fr x hry).trans upT_self, (kin.trans k3).trans al.kin, o3.alike al, P5, O5⟩)
              obtain ⟨pre, e1, e2⟩ := hpre
              exact ⟨pre ++ [(l, y)], by rw [e1]; simp, by rw [e2]⟩
      · refine RunE.forget hb ?_
        walk_at "go"
        refine if_ff ?_
        refine RunL.forget hb ?_
        walk_at "go"
        obtain ⟨tk, q', e1, e2, P⟩ := popL_ok ro (n := n) (by omega) n.q T [] hx o
        rw [hpop] at h e2 P
        rw [List.nil_append] at e2
        dsimp only at h e2 P
        subst e2
        obtain ⟨z1, z2, z3⟩ := hfin T' pp q' e1 P
        refine fin_suite (C := X.C) (r := f + 1) hC hr' R2 P.at_ P2 (fpl _ (Pk T' q' P).like) z1 z2 z3 (List.suffix_refl _) fun m' σ3 hb3 R3 O3 => ?_
        walk_at "st"
        refine RunL.forget hb3 ?_
        walk_at "go"
        refine fk_next ?_
        walk_at "go"
        exact h σ3 R3 (O2.trans ((Pk T' q' P).like.off O3))
    · rintro ev ex m' σ2 ⟨rfl, hb, T', pp, hpop, R2, P2, O2⟩
      refine RunL.forget hb ?_
      obtain ⟨tk, q', e1, e2, P⟩ := popL_ok ro (n := n) (by omega) n.q T [] hx o
      rw [hpop] at h e2 P
      rw [List.nil_append] at e2
      dsimp only at h e2 P
      subst e2
      obtain ⟨z1, z2, z3⟩ := hfin T' pp q' e1 P
      walk_at "st"
      refine fin_suite (C := X.C) (A := (X.A.deeper (callEnv (d_Stream_schedule X.C) L a_Stream_schedule)).mark (some (.ref ev))) (r := f + 1) hC ⟨hr'.1, hr'.2⟩ R2 P.at_ P2 (fpl _ (Pk T' q' P).like) z1 z2 z3 (List.suffix_refl _) fun m' σ3 hb3 R3 O3 => ?_
      walk_at "st"
      refine RunL.forget hb3 ?_
      walk_at "go"
      refine fe_next ?_
      exact h σ3 R3 (O2.trans ((Pk T' q' P).like.off O3))
end
section
variable {X : Fx} {m : Loc} {σ : MHeap} {KE : Value → MHeap → Prop} {K : MV → MHeap → Prop} {T : Tree} {t : Addr} {p : PT}
theorem exc_dead {C : Cx} (hC : Of C) : excIn C.K c_DeadlockError [.type "Exception", .type "BaseException", .type "object"] "Exception.__new__" = true := by unfold Of at hC; rw [hC]; kernel_rfl
theorem sp_nextD (hC : Of X.C) (hh : X.A.handled = none) (rk : Addr → Nat) {f : Nat} (hr : Room X.A (f + 6)) (A : PtAt σ t p) (o : Ranked T rk) (hf : rk p.root < f) (R : RepS σ T) {n : Node} (hx : T p.root = some n) (hn : n.act = false)
    (h : ∀ σ', RepS σ' (runN f T p.root).2 → Off T σ σ' → match (runN f T p.root).1 with | some i => K (.int i) σ' | none => KE (.ref c_DeadlockError) σ') :
    CallV X m σ (.ref a_PriorityTree_next) [.ref t] [] K KE := by
  refine cv_fn (ok_PriorityTree_next hC) hr.depth (m₀ := [("self", .ref t)]) rfl (by kernel_rfl) (b1 fun v => by kernel_rfl) fun L => ?_
  have hr' := hr.deeper (callEnv (d_PriorityTree_next X.C) L a_PriorityTree_next)
  conv in fnBody _ => whnf
  walk_at "go"
  refine gm_T (X := X.into _) hC A (facts_T hC).2.2.2.2.1 (by kernel_rfl) ?_
  walk_at "go"
  refine cv_fn (ok_PriorityTree___next__ hC) hr'.depth (m₀ := [("self", .ref t)]) rfl (by kernel_rfl) (b1 fun v => by kernel_rfl) fun L' => ?_
  have hr2 := hr'.deeper (callEnv (d_PriorityTree___next__ X.C) L' a_PriorityTree___next__)
  conv in fnBody _ => whnf
  walk_at "go"
  refine r1_Try (fun ex m' σ' => ex = .type "IndexError" ∧ m' = ([("self", .ref t)] : Loc) ∧ KE (.ref c_DeadlockError) σ') ?_ ?_
  · walk_at "go"
    refine ga_root (X := (X.into _).into _) hC A ?_
    refine gm_sched (X := (X.into _).into _) hC (R.at_ _ _ hx) ?_
    walk_at "go"
    refine sp_sched rk f (X := (X.into _).into _) hC hh hr2 o hf R hx hn fun σ' R' O' => ?_
    have h := h σ' R' O'
    cases hrun : (runN f T p.root).1 with
    | some i =>
      rw [hrun] at h
      dsimp only
      walk_at "go"
      exact h
    | none =>
      rw [hrun] at h
      exact ⟨rfl, rfl, h⟩
  · rintro ev ex m' σ' ⟨rfl, rfl, k⟩
    unfold HandleM
    walk_at "nm"
    refine ⟨_, true, rfl, hit_index, rfl, ?_⟩
    rw [if_pos rfl]
    walk_at "st"
    refine r1_Raise (PySem.F.excBase_Exception) (by decide) (exc_dead hC) (by kernel_rfl) (fun K h => n_DeadlockError (X := ((X.into _).into _).mark ev) hC (by kernel_rfl) h) ?_
    walk_at "go"
    exact ⟨by decide, k⟩
end
noncomputable def cn (line : List Int) (n : Nat) (k : Int) : Int := ((line.take n).filter (fun x => x = k)).length
theorem cn_succ {line : List Int} {j : Nat} (h : j < line.length) (k : Int) : cn line (j + 1) k = cn line j k + (if line[j] = k then 1 else 0) := by
  unfold cn
  rw [List.take_succ_eq_append_getElem h, List.filter_append]
  by_cases e : line[j] = k <;> simp [e]
theorem sum_add (l : List Int) (f g : Int → Int) : (l.map (fun k => f k + g k)).sum = (l.map f).sum + (l.map g).sum := by
  induction l with
  | nil => rfl
  | cons a r ih => simp only [List.map_cons, List.sum_cons, ih]; omega
theorem sum_none {x : Int} {l : List Int} (h : x ∉ l) : (l.map (fun k => if x = k then (1 : Int) else 0)).sum = 0 := by
  induction l with
  | nil => rfl
  | cons a r ih =>
    have h' : x ≠ a ∧ x ∉ r := by simpa using h
    simp only [List.map_cons, List.sum_cons, ih h'.2, if_neg h'.1]; rfl
theorem sum_one {x : Int} {l : List Int} (nd : l.Nodup) (h : x ∈ l) : (l.map (fun k => if x = k then (1 : Int) else 0)).sum = 1 := by
  induction l with
  | nil => cases h
  | cons a r ih =>
    rw [List.nodup_cons] at nd
    by_cases e : x = a
    · subst e; simp only [List.map_cons, List.sum_cons, sum_none nd.1, if_pos]; rfl
    · rcases List.mem_cons.mp h with q | q
      · exact (e q).elim
      · simp only [List.map_cons, List.sum_cons, ih nd.2 q, if_neg e]; rfl
theorem sum_le {l : List Int} {f g : Int → Int} (h : ∀ k ∈ l, f k ≤ g k) : (l.map f).sum ≤ (l.map g).sum := by
  induction l with
  | nil => exact Int.le_refl _
  | cons a r ih =>
    have := h a (.head _)
    have := ih fun k hk => h k (.tail _ hk)
    simp only [List.map_cons, List.sum_cons]; omega
theorem sum_all {l : List Int} {f g : Int → Int} (h : ∀ k ∈ l, f k ≤ g k) (e : (l.map g).sum ≤ (l.map f).sum) : ∀ k ∈ l, f k = g k := by
  induction l with
  | nil => intro k hk; cases hk
  | cons a r ih =>
    have h1 := h a (.head _)
    have h2 := sum_le fun k hk => h k (.tail _ hk)
    simp only [List.map_cons, List.sum_cons] at e
    intro k hk
    rcases List.mem_cons.mp hk with q | q
    · subst q; omega
    · exact ih (fun k hk => h k (.tail _ hk)) (by omega) k q
theorem sum_mul (c : Int) (l : List Int) (f : Int → Int) : (l.map (fun k => c * f k)).sum = c * (l.map f).sum := by
  induction l with
  | nil => simp
  | cons a r ih => simp only [List.map_cons, List.sum_cons, ih, Int.mul_add]
theorem sum_cn {K line : List Int} (nd : K.Nodup) (hm : ∀ x ∈ line, x ∈ K) : ∀ j, j ≤ line.length → (K.map (cn line j)).sum = j
  | 0, _ => by
    have : (K.map (cn line 0)).sum = (K.map (fun _ => (0 : Int) * 0)).sum := by
      rw [show cn line 0 = fun _ => (0 : Int) * 0 from funext fun k => by simp [cn]]
    rw [this, sum_mul, Int.zero_mul]; rfl
  | j + 1, h => by
    have e : K.map (cn line (j + 1)) = K.map (fun k => cn line j k + (if line[j] = k then 1 else 0)) := List.map_congr_left fun k _ => cn_succ h k
    rw [e, sum_add, sum_cn nd hm j (by omega), sum_one nd (hm _ (List.getElem_mem _))]
    omega
noncomputable def KLe (a x b o : Int) : Prop := a < b ∨ (a = b ∧ x ≤ o)
noncomputable def GreedyI (W : List (Int × Int)) (line : List Int) : Prop := ∀ j (h : j < line.length), line[j] ∈ keysOf W ∧ ∀ o ∈ keysOf W, KLe (256 * cn line j line[j] / wAt W line[j]) line[j] (256 * cn line j o / wAt W o) o
theorem KLe.le {a x b o : Int} (h : KLe a x b o) : a ≤ b := by unfold KLe at h; omega
section
variable {W : List (Int × Int)} {line : List Int} {g h : Int}
structure Rd (W : List (Int × Int)) (g h : Int) : Prop where
  nd : (keysOf W).Nodup
  w : ∀ k ∈ keysOf W, 1 ≤ wAt W k ∧ wAt W k ≤ 256
  g1 : 1 ≤ g
  gh : g * h = 256
  dv : ∀ k ∈ keysOf W, g * (wAt W k / g) = wAt W k
noncomputable def whole (W : List (Int × Int)) (g : Int) : Int := ((keysOf W).map fun k => wAt W k / g).sum
theorem Rd.u1 (R : Rd W g h) {k : Int} (hk : k ∈ keysOf W) : 1 ≤ wAt W k / g := by
  have a := R.dv k hk
  have b := R.w k hk
  have c := R.g1
  refine Int.not_lt.mp fun z => ?_
  have : wAt W k / g ≤ 0 := by omega
  have : g * (wAt W k / g) ≤ g * 0 := Int.mul_le_mul_of_nonneg_left this (by omega)
  omega
theorem Rd.shift (R : Rd W g h) {k : Int} (hk : k ∈ keysOf W) (c : Int) : 256 * (c + wAt W k / g) / wAt W k = 256 * c / wAt W k + h := by
  have a := R.dv k hk
  have b := R.w k hk
  have e : 256 * (c + wAt W k / g) = 256 * c + h * wAt W k := by
    rw [Int.mul_add]
    congr 1
    rw [← R.gh, Int.mul_comm g h, Int.mul_assoc, a]
  rw [e, Int.add_mul_ediv_right _ _ (by omega)]
theorem Rd.at_ (R : Rd W g h) {k : Int} (hk : k ∈ keysOf W) (i : Int) : 256 * (i * (wAt W k / g)) = i * h * wAt W k := by
  have a := R.dv k hk
  rw [← R.gh]
  calc g * h * (i * (wAt W k / g)) = i * h * (g * (wAt W k / g)) := by
        rw [Int.mul_comm g h, Int.mul_assoc h g, ← Int.mul_assoc g i, Int.mul_comm g i, Int.mul_assoc i g, ← Int.mul_assoc h i, Int.mul_comm h i]
    _ = i * h * wAt W k := by rw [a]
theorem GreedyI.mem (G : GreedyI W line) : ∀ x ∈ line, x ∈ keysOf W := fun x hx => by
  obtain ⟨k, hk, rfl⟩ := List.getElem_of_mem hx; exact (G k hk).1
theorem rd_top (R : Rd W g h) (G : GreedyI W line) (i : Int) (hi : 0 ≤ i) : ∀ j : Nat, j ≤ line.length → (j : Int) ≤ i * whole W g → ∀ n ∈ keysOf W, cn line j n ≤ i * (wAt W n / g)
  | 0, _, _, n, hn => by
    have : cn line 0 n = 0 := by simp [cn]
    rw [this]
    exact Int.mul_nonneg hi (by have := R.u1 hn; omega)
  | j + 1, hj1, hj, n, hn => by
    have ih := rd_top R G i hi j (by omega) (by omega)
    have hj' : j < line.length := hj1
    rw [cn_succ hj']
    by_cases e : line[j] = n
    · rw [if_pos e]
      subst e
      refine Int.not_lt.mp fun z => ?_
      obtain ⟨hx, hg⟩ := G j hj'
      have all : ∀ k ∈ keysOf W, i * (wAt W k / g) ≤ cn line j k := fun k hk => by
        refine Int.not_lt.mp fun y => ?_
        have q0 := (hg k hk).le
        have w1 := R.w _ hx
        have w2 := R.w _ hk
        have a1 := R.at_ hx i
        have a2 := R.at_ hk i
        have q1 : 256 * cn line j k / wAt W k < i * h := Int.ediv_lt_of_lt_mul (by omega) (by omega)
        have q2 : i * h ≤ 256 * cn line j line[j] / wAt W line[j] := Int.le_ediv_of_mul_le (by omega) (by omega)
        omega
      have := sum_le all
      rw [sum_mul i (keysOf W) fun k => wAt W k / g, sum_cn R.nd G.mem j (by omega)] at this
      have e : ((keysOf W).map fun k => wAt W k / g).sum = whole W g := rfl
      rw [e] at this
      omega
    · rw [if_neg e]
      have := ih n hn
      omega
theorem rd_full (R : Rd W g h) (G : GreedyI W line) (i : Int) (hi : 0 ≤ i) (j : Nat) (hj : j ≤ line.length) (e : (j : Int) = i * whole W g) : ∀ n ∈ keysOf W, cn line j n = i * (wAt W n / g) := by
  refine sum_all (g := fun n => i * (wAt W n / g)) (rd_top R G i hi j hj (by omega)) ?_
  rw [sum_mul i (keysOf W) fun k => wAt W k / g, sum_cn R.nd G.mem j hj]
  show i * whole W g ≤ _
  omega
theorem rd_round (R : Rd W g h) (G : GreedyI W line) : ∀ j : Nat, j + (whole W g).toNat ≤ line.length → 0 ≤ whole W g → (∀ n ∈ keysOf W, cn line (j + (whole W g).toNat) n = cn line j n + wAt W n / g) ∧ ∀ (h1 : j + (whole W g).toNat < line.length) (h2 : j < line.length), line[j + (whole W g).toNat] = line[j] := by
  intro j
  have pick : ∀ j, 0 ≤ whole W g → (∀ n ∈ keysOf W, cn line (j + (whole W g).toNat) n = cn line j n + wAt W n / g) → ∀ (h1 : j + (whole W g).toNat < line.length) (h2 : j < line.length), line[j + (whole W g).toNat] = line[j] := fun j h0 hc h1 h2 => by
    obtain ⟨m1, g1⟩ := G j h2
    obtain ⟨m2, g2⟩ := G _ h1
    have a := g1 _ m2
    have b := g2 _ m1
    rw [hc _ m1, hc _ m2, R.shift m1, R.shift m2] at b
    unfold KLe at a b
    omega
  induction j with
  | zero =>
    intro hj h0
    have c : ∀ n ∈ keysOf W, cn line (0 + (whole W g).toNat) n = cn line 0 n + wAt W n / g := fun n hn => by
      have := rd_full R G 1 (by omega) (whole W g).toNat (by omega) (by rw [Int.toNat_of_nonneg h0]; omega) n hn
      rw [Nat.zero_add, this]
      simp [cn]
    exact ⟨c, pick 0 h0 c⟩
  | succ j ih =>
    intro hj h0
    obtain ⟨c, p⟩ := ih (by omega) h0
    have c' : ∀ n ∈ keysOf W, cn line (j + 1 + (whole W g).toNat) n = cn line (j + 1) n + wAt W n / g := fun n hn => by
      have h1 : j + (whole W g).toNat < line.length := by omega
      have h2 : j < line.length := by omega
      rw [show j + 1 + (whole W g).toNat = (j + (whole W g).toNat) + 1 from by omega, cn_succ h1, cn_succ h2, c n hn, p h1 h2]
      omega
    exact ⟨c', pick _ h0 c'⟩
theorem rd_fair (R : Rd W g h) (G : GreedyI W line) (j : Nat) (hj : j < line.length) (o : Int) (ho : o ∈ keysOf W) : 256 * (cn line (j + 1) line[j] * wAt W o - cn line (j + 1) o * wAt W line[j]) ≤ wAt W o * (wAt W line[j] + 255) := by
  obtain ⟨hx, hg⟩ := G j hj
  have w1 := R.w _ hx
  have w2 := R.w _ ho
  have q := (hg o ho).le
  rw [cn_succ hj, cn_succ hj, if_pos rfl]
  generalize ha : cn line j line[j] = a at q ⊢
  by_cases e : line[j] = o
  · subst e
    rw [if_pos rfl, ha]
    have : 0 ≤ wAt W line[j] * (wAt W line[j] + 255) := Int.mul_nonneg (by omega) (by omega)
    omega
  · rw [if_neg e]
    generalize cn line j o = b at q ⊢
    generalize wAt W line[j] = w at *
    generalize wAt W o = v at *
    have h1 : 256 * a ≤ w * (256 * a / w) + (w - 1) := by
      have := Int.emod_add_mul_ediv (256 * a) w
      have := Int.emod_lt_of_pos (256 * a) (show 0 < w by omega)
      omega
    have h2 : v * (256 * b / v) ≤ 256 * b := Int.mul_ediv_self_le (by omega)
    have h3 : w * (256 * a / w) ≤ w * (256 * b / v) := Int.mul_le_mul_of_nonneg_left q (by omega)
    have h4 : 256 * a * v ≤ (w * (256 * b / v) + (w - 1)) * v := Int.mul_le_mul_of_nonneg_right (by omega) (by omega)
    have h5 : w * (v * (256 * b / v)) ≤ w * (256 * b) := Int.mul_le_mul_of_nonneg_left h2 (by omega)
    have e1 : (w * (256 * b / v) + (w - 1)) * v = w * (v * (256 * b / v)) + w * v - v := by
      rw [Int.add_mul, Int.sub_mul, Int.one_mul, Int.mul_assoc w, Int.mul_comm _ v]
      omega
    have e2 : w * (256 * b) = 256 * (b * w) := by rw [← Int.mul_assoc, Int.mul_comm w 256, Int.mul_assoc, Int.mul_comm w b]
    have e3 : 256 * a * v = 256 * (a * v) := Int.mul_assoc _ _ _
    have e4 : (a + 1) * v = a * v + v := by rw [Int.add_mul, Int.one_mul]
    have e5 : v * (w + 255) = w * v + 255 * v := by rw [Int.mul_add, Int.mul_comm v w, Int.mul_comm v 255]
    rw [e4, e5, Int.add_zero]
    omega
end
theorem wAt_at {W : List (Int × Int)} (hnd : (keysOf W).Nodup) {i : Nat} (e : i < W.length) : (im W)[i]? = some ((keysOf W)[i]'(by unfold keysOf; simpa using e), .int (wAt W ((keysOf W)[i]'(by unfold keysOf; simpa using e)))) := by
  induction W generalizing i with
  | nil => cases e
  | cons p r ih =>
    unfold keysOf at hnd
    rw [List.map_cons, List.nodup_cons] at hnd
    cases i with
    | zero => unfold im keysOf wAt; simp
    | succ j =>
      have e' : j < r.length := by simpa using e
      have := ih hnd.2 e'
      have hk : (keysOf r)[j]'(by unfold keysOf; simpa using e') ∈ keysOf r := List.getElem_mem _
      have ne : p.1 ≠ (keysOf r)[j]'(by unfold keysOf; simpa using e') := fun q => hnd.1 (by rw [q]; exact hk)
      have w : wAt (p :: r) ((keysOf r)[j]'(by unfold keysOf; simpa using e')) = wAt r ((keysOf r)[j]'(by unfold keysOf; simpa using e')) := by
        unfold wAt
        rw [List.find?_cons]
        simp [ne]
      show (im r)[j]? = _
      rw [this]
      show _ = some ((keysOf r)[j]'(by unfold keysOf; simpa using e'), MV.int (wAt (p :: r) ((keysOf r)[j]'(by unfold keysOf; simpa using e'))))
      rw [w]
theorem rsize {n : Nat} {c : Int} (h1 : 1 ≤ c) : 0 ≤ Builtin.Range.rangeSize 0 n c ∧ Builtin.Range.rangeSize 0 n c ≤ n ∧ ∀ i : Nat, (i : Int) < Builtin.Range.rangeSize 0 n c → i * c.toNat < n := by
  unfold Builtin.Range.rangeSize
  rw [if_pos (by omega)]
  split
  · rename_i hn
    have a1 : 0 ≤ ((n : Int) - 0 - 1) / c := Int.ediv_nonneg (by omega) (by omega)
    have a2 : ((n : Int) - 0 - 1) / c ≤ (n : Int) - 0 - 1 := Int.ediv_le_self _ (by omega)
    refine ⟨by omega, by omega, fun i hi => ?_⟩
    have a3 : (i : Int) ≤ ((n : Int) - 0 - 1) / c := by omega
    have a4 := (Int.le_ediv_iff_mul_le (by omega)).mp a3
    have : ((i * c.toNat : Nat) : Int) = i * c := by rw [Int.natCast_mul, Int.toNat_of_nonneg (by omega)]
    omega
  · refine ⟨by omega, by omega, fun i hi => by omega⟩
theorem small_len {n : Nat} {c : Int} (hn : n ≤ 1000) (h1 : 1 ≤ c) (h2 : c ≤ 10000) : Builtin.Range.small 0 n c = true := by
  obtain ⟨q1, q2, _⟩ := rsize (n := n) h1
  unfold Builtin.Range.small Builtin.Range.rangeFitsLong
  rw [if_pos (by omega)]
  simp
  omega
theorem getk {W : List (Int × Int)} {i : Nat} {k : Int} {v : MV} (z : (im W)[i]? = some (k, v)) : ∃ hi : i < W.length, k = (keysOf W)[i]'(by unfold keysOf; simpa using hi) ∧ k ∈ keysOf W := by
  unfold im at z
  rw [List.getElem?_map] at z
  obtain ⟨e, he, q⟩ := Option.map_eq_some_iff.mp z
  obtain ⟨hi, he⟩ := List.getElem?_eq_some_iff.mp he
  cases q
  refine ⟨hi, by simp [keysOf, he], ?_⟩
  unfold keysOf; exact List.mem_map.mpr ⟨e, by rw [← he]; exact List.getElem_mem hi, rfl⟩
theorem lenK {W : List (Int × Int)} : (keysOf W).length = W.length := by unfold keysOf; simp
theorem lenI {W : List (Int × Int)} : (im W).length = W.length := by unfold im; simp
theorem lenN {l : List Int} : (nm l).length = l.length := by unfold nm; simp
noncomputable def cnL (l : List Int) (k : Int) : Int := (l.filter (fun x => x = k)).length
theorem nm_get {l : List Int} {i : Nat} (e : i < l.length) : (nm l)[i]? = some (.int l[i]) := by unfold nm; rw [List.getElem?_map, List.getElem?_eq_getElem e]; rfl
theorem pick_front (l : List Int) (k : Nat) : pickL (l.map .int) none (some (k : Int)) = nm (l.take k) := by
  have c1 : clipAt (l.map MV.int).length (k : Int) = min k l.length := by unfold clipAt; rw [List.length_map, if_neg (by omega)]; omega
  unfold pickL
  simp only [Option.elim]
  rw [c1]
  unfold nm
  rw [List.drop_zero, Nat.sub_zero, ← List.map_take]
  congr 1
  rw [List.take_eq_take_iff]
  omega
theorem rs1 (n : Nat) : Builtin.Range.rangeSize 0 n 1 = n := by
  unfold Builtin.Range.rangeSize
  rw [if_pos (by decide)]
  split
  · rw [Int.ediv_one]; omega
  · omega
theorem sm1 {n : Nat} (h : n ≤ 1000) : Builtin.Range.small 0 n 1 = true := small_len h (by decide) (by decide)
noncomputable def NotAfter (idf : Addr → Int) (a b : Int × Addr) : Prop := ahead (idf b.2) (idf a.2) b.1 a.1 = false
theorem NotAfter.iff {idf : Addr → Int} {a b : Int × Addr} : NotAfter idf a b ↔ a.1 < b.1 ∨ (a.1 = b.1 ∧ idf a.2 ≤ idf b.2) := by
  unfold NotAfter ahead
  split
  · rw [decide_eq_false_iff_not]; omega
  · rw [decide_eq_false_iff_not]; omega
theorem NotAfter.trans {idf : Addr → Int} {a b c : Int × Addr} (h : NotAfter idf a b) (h' : NotAfter idf b c) : NotAfter idf a c := by
  rw [NotAfter.iff] at *; omega
theorem NotAfter.of {idf : Addr → Int} {a b : Int × Addr} (h : ahead (idf a.2) (idf b.2) a.1 b.1 = true) : NotAfter idf a b := by
  unfold ahead at h
  rw [NotAfter.iff]
  split at h <;> (have := of_decide_eq_true h; omega)
noncomputable abbrev Srt (idf : Addr → Int) (q : List (Int × Addr)) : Prop := q.Pairwise (NotAfter idf)
theorem dn_up {idf : Addr → Int} {it : Int × Addr} {q : List (Int × Addr)} : ∀ k, k ≤ q.length → ∀ i, dn idf it q k ≤ i → (h : i < k) → (h' : i < q.length) → NotAfter idf it q[i]
  | 0, _, i, _, h, _ => absurd h (Nat.not_lt_zero _)
  | k + 1, hk, i, hd, h, h' => by
    unfold dn at hd
    rw [List.getElem?_eq_getElem (by omega)] at hd
    simp only at hd
    split at hd
    · rename_i ha
      by_cases e : i = k
      · subst e; exact NotAfter.of ha
      · exact dn_up k (by omega) i hd (by omega) h'
    · omega
theorem dn_low {idf : Addr → Int} {it : Int × Addr} {q : List (Int × Addr)} : ∀ k, k ≤ q.length → ∀ j, dn idf it q k = j + 1 → (h : j < q.length) → NotAfter idf q[j] it
  | 0, _, j, hd, _ => by cases hd
  | k + 1, hk, j, hd, h => by
    unfold dn at hd
    rw [List.getElem?_eq_getElem (by omega)] at hd
    simp only at hd
    split at hd
    · exact dn_low k (by omega) j hd h
    · rename_i ha
      obtain rfl : k = j := by omega
      unfold NotAfter
      simpa using ha
theorem pushQ_perm (idf : Addr → Int) (q : List (Int × Addr)) (it : Int × Addr) : (pushQ idf q it).Perm (it :: q) := by
  unfold pushQ
  refine List.perm_middle.trans ?_
  rw [List.take_append_drop]
theorem pushQ_srt {idf : Addr → Int} {q : List (Int × Addr)} {it : Int × Addr} (h : Srt idf q) : Srt idf (pushQ idf q it) := by
  have hle := dn_le idf it q q.length
  have up : ∀ b ∈ q.drop (dn idf it q q.length), NotAfter idf it b := fun b hb => by
    obtain ⟨i, hi, rfl⟩ := List.getElem_of_mem hb
    rw [List.length_drop] at hi
    rw [List.getElem_drop]
    exact dn_up q.length (Nat.le_refl _) _ (by omega) (by omega) (by omega)
  have low : ∀ b ∈ q.take (dn idf it q q.length), NotAfter idf b it := fun b hb => by
    obtain ⟨i, hi, rfl⟩ := List.getElem_of_mem hb
    rw [List.length_take] at hi
    rw [List.getElem_take]
    obtain ⟨j, hj⟩ : ∃ j, dn idf it q q.length = j + 1 := ⟨dn idf it q q.length - 1, by omega⟩
    have l := dn_low q.length (Nat.le_refl _) j hj (by omega)
    by_cases e : i = j
    · subst e; exact l
    · exact (List.pairwise_iff_getElem.mp h i j (by omega) (by omega) (by omega)).trans l
  unfold pushQ
  unfold Srt
  rw [List.pairwise_append, List.pairwise_cons]
  refine ⟨h.sublist (List.take_sublist _ _), ⟨up, h.sublist (List.drop_sublist _ _)⟩, fun a ha b hb => ?_⟩
  rcases List.mem_cons.mp hb with e | e
  · subst e; exact low a ha
  · exact (low a ha).trans (up b e)
theorem pushQ_mem {idf : Addr → Int} {q : List (Int × Addr)} {it e : Int × Addr} : e ∈ pushQ idf q it ↔ e = it ∨ e ∈ q := by
  rw [(pushQ_perm idf q it).mem_iff, List.mem_cons]
theorem cnL_snoc (l : List Int) (x k : Int) : cnL (l ++ [x]) k = cnL l k + if x = k then 1 else 0 := by
  unfold cnL
  rw [List.filter_append]
  by_cases e : x = k <;> simp [e]
theorem cn_all (l : List Int) (k : Int) : cn l l.length k = cnL l k := by unfold cn cnL; rw [List.take_length]
theorem lvl_next {c w : Int} (hw : 0 < w) : 256 * (c + 1) / w = 256 * c / w + (256 + 256 * c % w) / w ∧ 256 * (c + 1) % w = (256 + 256 * c % w) % w := by
  have e : 256 * (c + 1) = (256 + 256 * c % w) + w * (256 * c / w) := by
    have := Int.emod_add_mul_ediv (256 * c) w
    omega
  rw [e, Int.add_mul_ediv_left _ _ (Int.ne_of_gt hw), Int.add_mul_emod_self_left]
  exact ⟨Int.add_comm _ _, rfl⟩
theorem KLe.refl {a x : Int} : KLe a x a x := by unfold KLe; omega
theorem GreedyI.snoc {W : List (Int × Int)} {line : List Int} {x : Int} (G : GreedyI W line) (f : x ∈ keysOf W ∧ ∀ o ∈ keysOf W, KLe (256 * cnL line x / wAt W x) x (256 * cnL line o / wAt W o) o) : GreedyI W (line ++ [x]) := by
  have low : ∀ j k, j ≤ line.length → cn (line ++ [x]) j k = cn line j k := fun j k h => by unfold cn; rw [List.take_append_of_le_length h]
  intro j h
  rw [List.length_append, List.length_singleton] at h
  by_cases e : j < line.length
  · rw [List.getElem_append_left e]
    obtain ⟨a, b⟩ := G j e
    exact ⟨a, fun o ho => by rw [low j _ (by omega), low j _ (by omega)]; exact b o ho⟩
  · obtain rfl : j = line.length := by omega
    rw [List.getElem_append_right (by omega)]
    simp only [Nat.sub_self, List.getElem_cons_zero]
    exact ⟨f.1, fun o ho => by rw [low _ _ (Nat.le_refl _), low _ _ (Nat.le_refl _), cn_all, cn_all]; exact f.2 o ho⟩
theorem GreedyI.nil {W : List (Int × Int)} : GreedyI W [] := fun j h => by cases h
noncomputable def isPow (g h : Int) (i : Nat) : Prop := g = 2 ^ i ∧ h = 2 ^ (8 - i) ∧ i ≤ 8
theorem isPow.gh {g h : Int} {i : Nat} (p : isPow g h i) : g * h = 256 ∧ 1 ≤ g := by
  obtain ⟨rfl, rfl, hi⟩ := p
  have : i = 0 ∨ i = 1 ∨ i = 2 ∨ i = 3 ∨ i = 4 ∨ i = 5 ∨ i = 6 ∨ i = 7 ∨ i = 8 := by omega
  rcases this with rfl | rfl | rfl | rfl | rfl | rfl | rfl | rfl | rfl <;> decide
theorem isPow.half {g h : Int} {i : Nat} (p : isPow g h (i + 1)) : isPow (g / 2) (h * 2) i := by
  obtain ⟨rfl, rfl, hi⟩ := p
  have : i = 0 ∨ i = 1 ∨ i = 2 ∨ i = 3 ∨ i = 4 ∨ i = 5 ∨ i = 6 ∨ i = 7 := by omega
  refine ⟨?_, ?_, by omega⟩ <;> (rcases this with rfl | rfl | rfl | rfl | rfl | rfl | rfl | rfl <;> decide)
noncomputable def badW (W : List (Int × Int)) (g : Int) : List Int := (keysOf W).filter fun k => wAt W k % g ≠ 0
section
variable {X : Fx} {m : Loc} {σ : MHeap} {KE : Value → MHeap → Prop} {K : MV → MHeap → Prop}
theorem sp_shares (hC : Of X.C) (hh : X.A.handled = none) {r : Nat} (hr : Room X.A (r + 1)) {sd wd : Addr} {line : List Int} {W : List (Int × Int)} (hl : σ.L sd = some (nm line)) (hw : σ.D wd = some (im W)) (hnd : (keysOf W).Nodup) (hW : ∀ k ∈ keysOf W, 1 ≤ wAt W k ∧ wAt W k ≤ 256)
    (hz : line.length ≤ 1000) (hz2 : W.length ≤ 30) (G : GreedyI W line) (h : ∀ σ', Fr0 σ σ' → K (.bool true) σ') :
    CallV X m σ (.ref a__law_shares) [.ref sd, .ref wd] [] K KE := by
  refine cv_cells (ok__law_shares hC) hr.depth (m₀ := [("served", .ref sd), ("weights", .ref wd)]) rfl (fun L => by kernel_rfl) (bp2 fun v u => by kernel_rfl) fun L => ?_
  have hr' : Room (X.into (callEnvC (d__law_shares X.C) L a__law_shares)).A r := hr.deeper (callEnvC (d__law_shares X.C) L a__law_shares)
  refine know_E (KE := fun x _ σ' => KE x σ') hw fun ep => ?_
  have hl0 : (σ.setE wd (some ep)).L sd = some (nm line) := hl
  have hw0 : (σ.setE wd (some ep)).D wd = some (im W) := hw
  have he0 : (σ.setE wd (some ep)).E wd = some ep := setE_self
  have hf0 : ∀ σ', Fr0 (σ.setE wd (some ep)) σ' → Fr0 σ (σ'.setE wd (σ.E wd)) := fun σ' f a z => by
    have g := f a z
    refine ⟨g.1, g.2.1, g.2.2.1, g.2.2.2.1, ?_⟩
    show (if a = wd then σ.E wd else σ'.E a) = σ.E a
    by_cases e : a = wd
    · subst e; rw [if_pos rfl]
    · rw [if_neg e, g.2.2.2.2]; show (if a = wd then some ep else σ.E a) = σ.E a; rw [if_neg e]
  generalize hσ0 : σ.setE wd (some ep) = σ0 at hl0 hw0 he0 hf0 ⊢
  have hl1 : ∀ {σ'}, Fr0 σ0 σ' → σ'.D wd = some (im W) ∧ σ'.E wd = some ep ∧ σ'.L sd = some (nm line) := fun f => ⟨(f wd (domD hw0)).2.2.1.trans hw0, (f wd (domD hw0)).2.2.2.2.trans he0, (f sd (domL hl0)).2.1.trans hl0⟩
  conv in fnBody _ => whnf
  walk_at "go"
  refine r1_While (fun k m' σ' => ∃ g h, isPow g h k ∧ m' = ([("g", .int g), ("served", .ref sd), ("weights", .ref wd)] : Loc) ∧ Fr0 σ0 σ') 8 ⟨256, 1, ⟨rfl, rfl, Nat.le_refl _⟩, rfl, Fr0.refl⟩ ?_
  rintro k m' σ1 ⟨g, h', pw, rfl, f1⟩
  have gh := pw.gh
  walk_at "go"
  refine ev_comp (CompOk.two (y := "weights") (z := "g") (c := L + 1) (d := L + 1 + 1) (v := .ref wd) (u := .int g) (by kernel_rfl) rfl (by decide) (by kernel_rfl) (by decide) (by kernel_rfl) (by kernel_rfl) (Nat.succ_ne_self _).symm (by simp) (by simp) (by decide) (by decide) (by kernel_rfl) (by kernel_rfl) (by kernel_rfl) (by kernel_rfl) (by kernel_rfl)) (fun _ => by kernel_rfl) W.length (by omega) ?_
  walk_at "go"
  refine ⟨fun I i h => h.IsKeyIter I wd i W.length ep, fun i acc σ' => σ' = σ1 ∧ i ≤ W.length ∧ acc = nm (((keysOf W).take i).filter fun k => wAt W k % g ≠ 0), starts_dict (hl1 f1).1 (hl1 f1).2.1 lenI, fun I => hst_dict, fun I => self_dict, ⟨rfl, Nat.zero_le _, by simp [nm]⟩, ?_, ?_⟩
  · rintro i acc σ' ⟨rfl, hi, rfl⟩
    refine ⟨hi, ?_⟩
    have := List.length_filter_le (fun k => decide (wAt W k % g ≠ 0)) ((keysOf W).take i)
    rw [List.length_take] at this
    unfold nm
    rw [List.length_map]
    omega
  · rintro i acc σ' ⟨hσ, hi, rfl⟩
    obtain rfl : σ1 = σ' := hσ.symm
    by_cases e : i < W.length
    · have eK : i < (keysOf W).length := by rw [lenK]; exact e
      refine .inl ?_
      have hg : (im W)[i]? = some ((keysOf W)[i], .int (wAt W (keysOf W)[i])) := by
        exact wAt_at hnd e
      refine ⟨_, fun C I => item_dict lenI (hl1 f1).1 (hl1 f1).2.1 hg, fun C => ei_one ?_⟩
      walk_at "go"
      refine sg_dict (hl1 f1).1 (atK_im (List.getElem_mem _)) ?_
      walk_at "go"
      refine o_mod (by omega) ?_
      walk_at "go"
      by_cases q : wAt W (keysOf W)[i] % g = 0
      · rw [if_pos (by simpa using q)]
        refine ⟨rfl, e, ?_⟩
        rw [List.take_succ_eq_append_getElem (by omega), List.filter_append]
        simp [nm, q]
      · rw [if_neg (by simpa using q)]
        walk_at "go"
        refine ⟨rfl, e, ?_⟩
        rw [List.take_succ_eq_append_getElem (by omega), List.filter_append]
        simp [nm, q]
    · obtain rfl : i = W.length := by omega
      refine .inr ⟨fun C I => done_dict hh lenI (hl1 f1).1 (hl1 f1).2.1, fun D hD => ?_⟩
      rw [← lenK, List.take_length]
      have f2 : Fr0 σ0 (σ1.setL D (nm (badW W g))) := f1.step SameOff.setL (f1.not hD)
      have hD2 : (σ1.setL D (nm (badW W g))).L D = some (nm (badW W g)) := up_self _ _ _
      show EvE _ _ (σ1.setL D (nm (badW W g))) _ _ _
      generalize σ1.setL D (nm (badW W g)) = σ2 at f2 hD2 ⊢
      walk_at "go"
      refine ⟨by decide, fun E hE => ?_⟩
      have f3 : Fr0 σ0 (σ2.setL E []) := f2.step SameOff.setL (f2.not hE)
      have nDE : D ≠ E := fun e => hE (e ▸ domL hD2)
      refine o_ne_ints hr' (ns := badW W g) (ms := []) ((up_ne _ _ nDE).trans hD2) (up_self _ _ _) ?_
      generalize σ2.setL E [] = σ3 at f3 ⊢
      walk_at "go"
      refine if_dec (fun hb => ?_) (fun hb => ?_)
      · have gd : ∀ k ∈ keysOf W, g * (wAt W k / g) = wAt W k := fun k hk => by
          have nb : k ∉ badW W g := by rw [hb]; exact List.not_mem_nil
          unfold badW at nb
          have : wAt W k % g = 0 := by
            refine Classical.byContradiction fun q => nb (List.mem_filter.mpr ⟨hk, by simpa using q⟩)
          have := Int.emod_add_mul_ediv (wAt W k) g
          omega
        have R : Rd W g h' := ⟨hnd, hW, gh.2, gh.1, gd⟩
        walk_at "go"
        refine fun c hc => ?_
        have f4 : Fr0 σ0 σ3 := f3
        have nd3 : ∀ {a}, σ0.Dom a → a ≠ c := fun da e => hc (e ▸ (f4 _ da).dom.mpr da)
        have wc : wd ≠ c := nd3 (domD hw0)
        have lc : sd ≠ c := nd3 (domL hl0)
        walk_at "go"
        have off : ∀ {σ' l}, SD σ3 σ' c l → σ'.D wd = some (im W) ∧ σ'.E wd = some ep ∧ σ'.L sd = some (nm line) := fun s => ⟨(s.off wd wc).2.2.1.trans (hl1 f4).1, (s.off wd wc).2.2.2.2.trans (hl1 f4).2.1, (s.off sd lc).2.1.trans (hl1 f4).2.2⟩
        refine r1_For_dict (fun i m' σ' => ([("had", .ref c), ("whole", .int (((keysOf W).take i).map fun k => wAt W k / g).sum), ("g", .int g), ("served", .ref sd), ("weights", .ref wd)] : Loc) <:+ m' ∧ i ≤ W.length ∧ ∃ Z, SD σ3 σ' c (im Z) ∧ keysOf Z = (keysOf W).take i ∧ ∀ k ∈ keysOf Z, wAt Z k = 0) W.length hh (fun _ => rfl) ?_
        walk_at "ex"
        refine ⟨wd, im W, ep, rfl, lenI, ⟨List.suffix_refl _, Nat.zero_le _, [], SD.start, by simp [keysOf], fun k hk => by cases hk⟩, ?_, ?_, ?_⟩
        · rintro i m' σ' ⟨_, hi, Z, s, _⟩
          exact ⟨hi, (off s).1, (off s).2.1⟩
        · rintro i m' σ' k v hkv ⟨hb, hi, Z, s, hz1, hz2⟩
          obtain ⟨hi', hk, hkm⟩ := getk hkv
          have hi'' : i < (keysOf W).length := by rw [lenK]; exact hi'
          have wk := hW k hkm
          refine AsT.forget hb ?_
          walk_at "go"
          refine sg_dict (off s).1 (atK_im hkm) ?_
          walk_at "go"
          refine o_fdiv (by omega) hr' ?_
          walk_at "go"
          have hzl : Z.length ≤ 1000 := by
            have := congrArg List.length hz1
            unfold keysOf at this
            simp at this
            omega
          refine si_dict s.at_ (by unfold im; simp; omega) ?_
          rw [putK_im]
          walk_at "go"
          have nk : k ∉ keysOf Z := by
            rw [hz1, hk]
            intro z
            obtain ⟨j, hj, e⟩ := List.getElem_of_mem z
            rw [List.getElem_take] at e
            rw [List.length_take] at hj
            exact (List.pairwise_iff_getElem.mp hnd) j i (by omega) (by omega) (by omega) e
          refine ⟨?_, hi', setW Z k 0, s.put, ?_, fun k' hk' => ?_⟩
          · rw [List.take_succ_eq_append_getElem hi'', List.map_append, List.sum_append, ← hk]
            simp only [List.map_cons, List.map_nil, List.sum_cons, List.sum_nil, Int.add_zero]
            exact List.suffix_cons _ _
          · rw [keys_setW, if_neg nk, hz1, hk, List.take_succ_eq_append_getElem]
          · rw [wAt_setW]
            split
            · rfl
            · rename_i ne
              refine hz2 k' ?_
              rw [keys_setW, if_neg nk] at hk'
              rcases List.mem_append.mp hk' with q | q
              · exact q
              · exact (ne (List.mem_singleton.mp q)).elim
        · rintro m' σ' ⟨hb, _, Z, s, hz1, hz2⟩
          rw [← lenK, List.take_length] at hz1 hb
          rw [show ((keysOf W).map fun k => wAt W k / g).sum = whole W g from rfl] at hb
          have wh0 : 0 ≤ whole W g := by
            have := sum_le (l := keysOf W) (f := fun _ => 0 * 0) (g := fun k => wAt W k / g) fun k hk => by have := R.u1 hk; omega
            rw [sum_mul] at this
            unfold whole; omega
          have wh1 : line ≠ [] → 1 ≤ whole W g := fun ne => by
            have hl := List.length_pos_iff.mpr ne
            have hx := (G 0 hl).1
            have u := R.u1 hx
            refine Int.not_lt.mp fun z => ?_
            have e0 : whole W g = 0 := by omega
            have := sum_all (l := keysOf W) (f := fun _ => 0 * 0) (g := fun k => wAt W k / g) (fun k hk => by have := R.u1 hk; omega) (by rw [sum_mul]; show whole W g ≤ _; omega) _ hx
            omega
          refine RunL.forget hb ?_
          walk_at "go"
          refine r1_For_range (fun j m' σ' => ([("had", .ref c), ("whole", .int (whole W g)), ("g", .int g), ("served", .ref sd), ("weights", .ref wd)] : Loc) <:+ m' ∧ j ≤ line.length ∧ ∃ H, SD σ3 σ' c (im H) ∧ keysOf H = keysOf W ∧ ∀ k ∈ keysOf W, wAt H k = cn line j k) line.length hh (fun _ => rfl) ?_
          refine er_call_name (by kernel_rfl) (by kernel_rfl) ?_
          walk_at "go"
          refine cv_len_list (off s).2.2 (by rw [lenN]; omega) ?_
          rw [lenN]
          walk_at "go"
          refine cr_range1 ?_
          refine ⟨sm1 hz, rs1 _, ⟨List.suffix_refl _, Nat.zero_le _, Z, s, hz1, fun k hk => by rw [hz2 k (by rw [hz1]; exact hk)]; unfold cn; simp⟩, ?_, ?_⟩
          · rintro j m' σ' hj' ⟨hb, _, H, s, hc1, hc2⟩
            have hx : line[j] ∈ keysOf W := (G j hj').1
            have lne : line ≠ [] := fun e => by rw [e] at hj'; cases hj'
            replace wh1 := wh1 lne
            have hHl : H.length ≤ 1000 := by
              have := congrArg List.length hc1
              unfold keysOf at this
              simp at this
              omega
            refine AsT.forget hb ?_
            rw [show (((0 : Int), (line.length : Int), (1 : Int)).1 + (j : Nat) * ((0 : Int), (line.length : Int), (1 : Int)).2.2) = (j : Int) from by show (0 : Int) + j * 1 = j; omega]
            walk_at "go"
            refine sg_list (off s).2.2 (by omega) (by omega) (by rw [Int.toNat_natCast]; exact nm_get hj') ?_
            walk_at "go"
            refine o_notin_dict s.at_ ?_
            rw [atK_im (by rw [hc1]; exact hx)]
            walk_at "go"
            refine if_bool (fun _ => ?_) (fun z => absurd z (by simp))
            walk_at "go"
            refine gi_dict s.at_ (atK_im (by rw [hc1]; exact hx)) ?_
            walk_at "go"
            refine si_dict s.at_ (by unfold im; simp; omega) ?_
            rw [putK_im]
            have s2 := s.put (l' := im (setW H line[j] (wAt H line[j] + 1)))
            have hk2 : keysOf (setW H line[j] (wAt H line[j] + 1)) = keysOf W := by rw [keys_setW, if_pos (by rw [hc1]; exact hx), hc1]
            have hc3 : ∀ k ∈ keysOf W, wAt (setW H line[j] (wAt H line[j] + 1)) k = cn line (j + 1) k := fun k hk => by
              rw [wAt_setW, cn_succ hj']
              split
              · rename_i e; rw [e, if_pos rfl, hc2 _ hx]
              · rename_i e; rw [if_neg (fun z => e z.symm), hc2 k hk]; omega
            generalize setW H line[j] (wAt H line[j] + 1) = H2 at s2 hk2 hc3 ⊢
            generalize σ'.setD c (im H2) = σ4 at s2 ⊢
            walk_at "go"
            have b1 := hW _ hx
            have lenH : (im H2).length = W.length := by rw [lenI, ← lenK, hk2, lenK]
            have back : ∀ {ep2}, (σ4.setE c (some ep2)).setE c (σ4.E c) = σ4 := fun {ep2} => by
              unfold MHeap.setE
              cases σ4
              congr 1
              funext b
              by_cases e : b = c
              · subst e; rw [if_pos rfl]
              · rw [if_neg e]; exact if_neg e
            have away : ∀ {ep2}, (σ4.setE c (some ep2)).D wd = some (im W) := (off s2).1
            have away2 : ∀ {ep2}, (σ4.setE c (some ep2)).D c = some (im H2) := s2.at_
            have away3 : ∀ {ep2}, (σ4.setE c (some ep2)).L sd = some (nm line) := (off s2).2.2
            refine know_E s2.at_ fun ep2 => ?_
            refine r1_For_dict (fun i m' σ' => ([("x", .int line[j]), ("k", .int (j : Int)), ("had", .ref c), ("whole", .int (whole W g)), ("g", .int g), ("served", .ref sd), ("weights", .ref wd)] : Loc) <:+ m' ∧ i ≤ W.length ∧ σ' = σ4.setE c (some ep2)) W.length hh (fun _ => rfl) ?_
            walk_at "ex"
            refine ⟨c, im H2, ep2, rfl, lenH, ⟨List.suffix_refl _, Nat.zero_le _, rfl⟩, ?_, ?_, ?_⟩
            · rintro i m' σ' ⟨_, hi, rfl⟩
              exact ⟨hi, away2, setE_self⟩
            · rintro i m' σ' o v hkv ⟨hb2, hi, rfl⟩
              obtain ⟨hi', _, hom⟩ := getk hkv
              rw [hk2] at hom
              have hi' : i < W.length := by rw [← lenI, ← lenH] at *; exact (List.getElem?_eq_some_iff.mp hkv).1
              refine AsT.forget hb2 ?_
              have b2 := hW _ hom
              walk_at "go"
              refine sg_dict away2 (atK_im (by rw [hk2]; exact hx)) ?_
              walk_at "go"
              refine sg_dict away (atK_im hom) ?_
              refine o_mulR (by omega) (by omega) ?_
              walk_at "go"
              refine sg_dict away2 (atK_im (by rw [hk2]; exact hom)) ?_
              walk_at "go"
              refine sg_dict away (atK_im hx) ?_
              refine o_mulR (by omega) (by omega) ?_
              walk_at "go"
              refine o_mulL (by decide) (by decide) ?_
              walk_at "go"
              refine sg_dict away (atK_im hom) ?_
              walk_at "go"
              refine sg_dict away (atK_im hx) ?_
              walk_at "go"
              refine o_mulR (by omega) (by omega) ?_
              walk_at "go"
              have f := rd_fair R G j hj' o hom
              rw [hc3 _ hx, hc3 _ hom]
              refine if_dec (fun z => absurd z (by omega)) (fun _ => ?_)
              walk_at "go"
              refine ⟨?_, hi', rfl⟩
              exact List.suffix_cons (⟨"y", .int o⟩ : Str × MV) _
            · rintro m' σ' ⟨hb2, _, rfl⟩
              walk_at "go"
              refine ⟨setE_self, ?_⟩
              rw [back]
              walk_at "st"
              refine RunL.forget hb2 ?_
              walk_at "st"
              refine RunL.mono (K := fun f m' σ' => f = .next ∧ m' = ([("x", .int line[j]), ("k", .int (j : Int)), ("had", .ref c), ("whole", .int (whole W g)), ("g", .int g), ("served", .ref sd), ("weights", .ref wd)] : Loc) ∧ σ' = σ4) (KE := fun _ _ _ => False) ?_ ?_ fun _ _ _ z => z.elim
              · walk_at "go"
                refine if_dec (fun z => ?_) (fun z => ?_)
                · walk_at "go"
                  have hj2 : (j - (whole W g).toNat) < line.length := by omega
                  refine sg_list (off s2).2.2 (by omega) (by omega) (by rw [show ((j : Int) - whole W g).toNat = j - (whole W g).toNat from by omega]; exact nm_get hj2) ?_
                  walk_at "go"
                  have e := (rd_round R G (j - (whole W g).toNat) (by omega) wh0).2 (by omega) hj2
                  have e' : line[j - (whole W g).toNat] = line[j] := by
                    rw [← e]; congr 1; omega
                  refine if_dec (fun _ => ?_) (fun z => absurd e' z)
                  walk_at "go"
                  exact ⟨rfl, rfl, rfl⟩
                · walk_at "go"
                  exact ⟨rfl, rfl, rfl⟩
              rintro f m' σ' ⟨rfl, rfl, rfl⟩
              walk_at "go"
              refine o_mod (by omega) ?_
              walk_at "go"
              refine if_dec (fun z => ?_) (fun z => ?_)
              · have full := rd_full R G (((j : Int) + 1) / whole W g) (Int.ediv_nonneg (by omega) (by omega)) (j + 1) hj' (by
                  have := Int.emod_add_mul_ediv ((j : Int) + 1) (whole W g)
                  rw [z, Int.zero_add, Int.mul_comm] at this
                  omega)
                walk_at "go"
                refine know_E s2.at_ fun ep3 => ?_
                refine r1_For_dict (fun i m' σ5 => ([("x", .int line[j]), ("k", .int (j : Int)), ("had", .ref c), ("whole", .int (whole W g)), ("g", .int g), ("served", .ref sd), ("weights", .ref wd)] : Loc) <:+ m' ∧ i ≤ W.length ∧ σ5 = σ'.setE c (some ep3)) W.length hh (fun _ => rfl) ?_
                walk_at "ex"
                refine ⟨c, im H2, ep3, rfl, lenH, ⟨List.suffix_refl _, Nat.zero_le _, rfl⟩, ?_, ?_, ?_⟩
                · rintro i m' σ5 ⟨_, hi, rfl⟩
                  exact ⟨hi, away2, setE_self⟩
                · rintro i m' σ5 o v hkv ⟨hb2, hi, rfl⟩
                  obtain ⟨hi', _, hom⟩ := getk hkv
                  rw [hk2] at hom
                  have hi' : i < W.length := by rw [← lenI, ← lenH] at *; exact (List.getElem?_eq_some_iff.mp hkv).1
                  refine AsT.forget hb2 ?_
                  have b2 := hW _ hom
                  have u2 := R.u1 hom
                  have u3 : wAt W o / g ≤ 256 := Int.le_trans (Int.ediv_le_self _ (by omega)) b2.2
                  walk_at "go"
                  refine sg_dict away2 (atK_im (by rw [hk2]; exact hom)) ?_
                  walk_at "go"
                  refine o_fdiv (by omega) hr' ?_
                  walk_at "go"
                  refine sg_dict away (atK_im hom) ?_
                  walk_at "go"
                  refine o_fdiv (by omega) hr' ?_
                  refine o_mulR (by omega) (by omega) ?_
                  walk_at "go"
                  rw [hc3 _ hom]
                  refine if_dec (fun z => ?_) (fun z => absurd (full o hom) z)
                  walk_at "go"
                  refine ⟨?_, hi', rfl⟩
                  exact List.suffix_cons (⟨"y", .int o⟩ : Str × MV) _
                · rintro m' σ5 ⟨hb2, _, rfl⟩
                  walk_at "go"
                  refine ⟨setE_self, ?_⟩
                  rw [back]
                  walk_at "go"
                  exact ⟨((List.suffix_cons _ _).trans (List.suffix_cons _ _)).trans hb2, hj', H2, s2, hk2, hc3⟩
              · walk_at "go"
                exact ⟨(List.suffix_cons _ _).trans (List.suffix_cons _ _), hj', H2, s2, hk2, hc3⟩
          · rintro m' σ' ⟨hb, _, H, s, _⟩
            refine RunL.forget hb ?_
            walk_at "go"
            refine ⟨(off s).2.1, h _ (hf0 _ fun a z => (f4 a z).trans (s.off a fun e => hc (e ▸ (f4 a z).dom.mpr z)))⟩
      · cases k with
        | zero =>
          obtain ⟨rfl, _⟩ := pw
          exact (hb (by unfold badW; simp)).elim
        | succ k =>
          walk_at "go"
          refine o_fdiv (by decide) hr' ?_
          walk_at "go"
          exact wk_next k (Nat.lt_succ_self _) ⟨g / 2, h' * 2, pw.half, rfl, f3⟩
end
structure Fo where
  ids : List Int
  par : Int → Int
  wt : Int → Int
  on : Int → Bool
  ad : Int → Addr
noncomputable def Fo.has (F : Fo) (x : Int) : Prop := x = 0 ∨ x ∈ F.ids
noncomputable def Fo.kids (F : Fo) (x : Int) : List Int := F.ids.filter fun c => F.par c = x
noncomputable def Fo.act (F : Fo) (x : Int) : Bool := if x = 0 then false else F.on x
noncomputable def Fo.rk (F : Fo) (x : Int) : Nat := 10 - (0 :: F.ids).idxOf x
structure FoOk (F : Fo) : Prop where
  nd : (0 :: F.ids).Nodup
  up : ∀ x ∈ F.ids, F.has (F.par x) ∧ F.rk x < F.rk (F.par x)
  wt : ∀ x ∈ F.ids, 1 ≤ F.wt x ∧ F.wt x ≤ 256
  len : F.ids.length ≤ 9
theorem Fo.mem_kids {F : Fo} {x c : Int} : c ∈ F.kids x ↔ c ∈ F.ids ∧ F.par c = x := by unfold Fo.kids; simp
theorem FoOk.ne0 {F : Fo} (o : FoOk F) {x : Int} (h : x ∈ F.ids) : x ≠ 0 := fun e => (List.nodup_cons.mp o.nd).1 (e ▸ h)
noncomputable def ent (F : Fo) (cnt : Int → Int) (c : Int) : Int × Addr := (256 * cnt c / F.wt c, F.ad c)
structure FoNode (F : Fo) (T : Tree) (cnt : Int → Int) (x : Int) (cs : List Int) (n : Node) : Prop where
  at_ : T (F.ad x) = some n
  id : n.id = x
  wd : x ≠ 0 → n.w = F.wt x ∧ n.dft = 256 * cnt x % F.wt x
  act : n.act = F.act x
  q : n.q = cs.map (ent F cnt)
  srt : Srt (idT T) n.q
structure IQ (F : Fo) (T : Tree) (cnt : Int → Int) (Q : Int → List Int) : Prop where
  node : ∀ z, F.has z → ∃ n, FoNode F T cnt z (Q z) n
  sub : ∀ z, F.has z → ∀ c ∈ Q z, c ∈ F.kids z
  nd : ∀ z, F.has z → (Q z).Nodup
  only : ∀ a n, T a = some n → ∃ z, F.has z ∧ a = F.ad z
noncomputable def setQ (Q : Int → List Int) (x : Int) (l : List Int) : Int → List Int := fun z => if z = x then l else Q z
noncomputable def bump (cnt : Int → Int) (c : Int) : Int → Int := fun d => cnt d + if d = c then 1 else 0
theorem setQ_self {Q : Int → List Int} {x : Int} {l : List Int} : setQ Q x l x = l := if_pos rfl
theorem setQ_ne {Q : Int → List Int} {x z : Int} {l : List Int} (h : z ≠ x) : setQ Q x l z = Q z := if_neg h
theorem bump_ne {cnt : Int → Int} {c d : Int} (h : d ≠ c) : bump cnt c d = cnt d := by unfold bump; rw [if_neg h, Int.add_zero]
theorem ent_eq {F : Fo} {cnt cnt' : Int → Int} {c : Int} (h : cnt' c = cnt c) : ent F cnt' c = ent F cnt c := by unfold ent; rw [h]
theorem ent_map {F : Fo} {cnt cnt' : Int → Int} {l : List Int} (h : ∀ c ∈ l, cnt' c = cnt c) : l.map (ent F cnt') = l.map (ent F cnt) := List.map_congr_left fun c hc => ent_eq (h c hc)
section
variable {F : Fo} {T : Tree} {cnt : Int → Int} {Q : Int → List Int}
theorem IQ.idT (I : IQ F T cnt Q) {z : Int} (h : F.has z) : Mine.idT T (F.ad z) = z := by
  obtain ⟨n, hn⟩ := I.node z h; rw [idT_of hn.at_, hn.id]
theorem IQ.inj (I : IQ F T cnt Q) {z y : Int} (h : F.has z) (h' : F.has y) (e : F.ad z = F.ad y) : z = y := by
  rw [← I.idT h, ← I.idT h', e]
theorem len_sub {l m : List Int} (nd : l.Nodup) (h : ∀ x ∈ l, x ∈ m) : l.length ≤ m.length := by
  induction l generalizing m with
  | nil => exact Nat.zero_le _
  | cons a r ih =>
    rw [List.nodup_cons] at nd
    have ha := h a (.head _)
    have := ih nd.2 (m := m.erase a) fun x hx => (List.mem_erase_of_ne fun e => nd.1 (by rw [← e]; exact hx)).mpr (h x (.tail _ hx))
    rw [List.length_erase_of_mem ha] at this
    have := List.length_pos_of_mem ha
    rw [List.length_cons]; omega
theorem IQ.len (o : FoOk F) (I : IQ F T cnt Q) {z : Int} (h : F.has z) : (Q z).length ≤ 9 := Nat.le_trans (len_sub (I.nd z h) fun x hx => (Fo.mem_kids.mp (I.sub z h x hx)).1) o.len
theorem IQ.ranked (o : FoOk F) (I : IQ F T cnt Q) {rk : Addr → Nat} (hr : ∀ z, F.has z → rk (F.ad z) = F.rk z) : Ranked T rk := fun a n ha => by
  obtain ⟨z, hz, rfl⟩ := I.only a n ha
  obtain ⟨n', N⟩ := I.node z hz
  rw [N.at_] at ha; cases ha
  refine ⟨by have := I.len o hz; rw [N.q, List.length_map]; omega, fun e he => ?_⟩
  rw [N.q] at he
  obtain ⟨c, hc, rfl⟩ := List.mem_map.mp he
  obtain ⟨h1, h2⟩ := Fo.mem_kids.mp (I.sub z hz c hc)
  have c0 := o.ne0 h1
  have w := o.wt c h1
  have r := (o.up c h1).2
  rw [h2] at r
  obtain ⟨k, K⟩ := I.node c (.inr h1)
  exact ⟨k, K.at_, by show rk (F.ad c) < _; rw [hr c (.inr h1), hr z hz]; exact r, by rw [(K.wd c0).1]; omega⟩
theorem IQ.pop (I : IQ F T cnt Q) {x c : Int} {cs : List Int} (hx : F.has x) (e : Q x = c :: cs) {n : Node} (N : FoNode F T cnt x (Q x) n) : IQ F (upT T (F.ad x) { n with q := cs.map (ent F cnt) }) cnt (setQ Q x cs) := by
  have li : Like T (upT T (F.ad x) { n with q := cs.map (ent F cnt) }) := Like.up N.at_ ⟨rfl, rfl, rfl⟩ rfl
  refine ⟨fun z hz => ?_, fun z hz d hd => ?_, fun z hz => ?_, fun a m ha => ?_⟩
  · by_cases q : z = x
    · subst q
      rw [setQ_self]
      refine ⟨_, upT_self, N.id, N.wd, N.act, rfl, ?_⟩
      rw [li.idT]
      have s := N.srt
      rw [N.q, e] at s
      exact (List.pairwise_cons.mp s).2
    · rw [setQ_ne q]
      obtain ⟨m, M⟩ := I.node z hz
      refine ⟨m, (upT_ne fun y => q (I.inj hz hx y)).trans M.at_, M.id, M.wd, M.act, M.q, ?_⟩
      rw [li.idT]; exact M.srt
  · by_cases q : z = x
    · subst q
      rw [setQ_self] at hd
      exact I.sub z hz d (by rw [e]; exact .tail _ hd)
    · rw [setQ_ne q] at hd; exact I.sub z hz d hd
  · by_cases q : z = x
    · subst q
      rw [setQ_self]
      have := I.nd z hz
      rw [e] at this
      exact (List.nodup_cons.mp this).2
    · rw [setQ_ne q]; exact I.nd z hz
  · by_cases q : a = F.ad x
    · exact ⟨x, hx, q⟩
    · rw [upT_ne q] at ha; exact I.only a m ha
theorem IQ.fin (o : FoOk F) (I : IQ F T cnt Q) {x c : Int} (hx : F.has x) (hc : c ∈ F.kids x) (nc : c ∉ Q x) {n k : Node} (N : FoNode F T cnt x (Q x) n) (K : FoNode F T cnt c (Q c) k) :
    ∃ l, IQ F (fin1 T (F.ad x) (F.ad c) (256 * cnt c / F.wt c) n k) (bump cnt c) (setQ Q x l) ∧ l.Perm (c :: Q x) := by
  obtain ⟨h1, h2⟩ := Fo.mem_kids.mp hc
  have c0 := o.ne0 h1
  have w := o.wt c h1
  have r := (o.up c h1).2
  rw [h2] at r
  have cx : c ≠ x := fun e => by rw [e] at r; exact absurd r (Nat.lt_irrefl _)
  have hc' : F.has c := .inr h1
  have ax : F.ad c ≠ F.ad x := fun e => cx (I.inj hc' hx e)
  have li : Like T (fin1 T (F.ad x) (F.ad c) (256 * cnt c / F.wt c) n k) := (fin1_kin N.at_ K.at_ (Ne.symm ax)).like
  have nx := lvl_next (c := cnt c) (w := F.wt c) (by omega)
  have ie : (256 * cnt c / F.wt c + (256 + k.dft) / k.w, F.ad c) = ent F (bump cnt c) c := by
    unfold ent bump
    rw [if_pos rfl, nx.1, (K.wd c0).1, (K.wd c0).2]
  refine ⟨(Q x).take (dn (Mine.idT T) (ent F (bump cnt c) c) n.q n.q.length) ++ c :: (Q x).drop (dn (Mine.idT T) (ent F (bump cnt c) c) n.q n.q.length), ?_, ?_⟩
  · have hq : pushQ (Mine.idT T) n.q (256 * cnt c / F.wt c + (256 + k.dft) / k.w, F.ad c) = ((Q x).take (dn (Mine.idT T) (ent F (bump cnt c) c) n.q n.q.length) ++ c :: (Q x).drop (dn (Mine.idT T) (ent F (bump cnt c) c) n.q n.q.length)).map (ent F (bump cnt c)) := by
      rw [ie]
      have e2 : n.q = (Q x).map (ent F (bump cnt c)) := by
        rw [N.q]
        exact (ent_map (cnt := cnt) (cnt' := bump cnt c) fun d hd => bump_ne fun e => nc (e ▸ hd)).symm
      unfold pushQ
      generalize dn (Mine.idT T) (ent F (bump cnt c) c) n.q n.q.length = i
      rw [e2, List.map_append, List.map_cons, List.map_take, List.map_drop]
    refine ⟨fun z hz => ?_, fun z hz d hd => ?_, fun z hz => ?_, fun a m ha => ?_⟩
    · by_cases q : z = x
      · subst q
        rw [setQ_self]
        refine ⟨_, upT_self, N.id, fun z0 => ?_, N.act, hq, ?_⟩
        · rw [bump_ne (Ne.symm cx)]; exact N.wd z0
        · rw [li.idT]; exact pushQ_srt N.srt
      · rw [setQ_ne q]
        have az : F.ad z ≠ F.ad x := fun e => q (I.inj hz hx e)
        by_cases y : z = c
        · subst y
          refine ⟨{ k with dft := (256 + k.dft) % k.w }, ?_, K.id, fun z0 => ⟨(K.wd z0).1, ?_⟩, K.act, ?_, ?_⟩
          · unfold fin1; rw [upT_ne az, upT_self]
          · show (256 + k.dft) % k.w = _
            unfold bump
            rw [if_pos rfl, nx.2, (K.wd z0).1, (K.wd z0).2]
          · rw [ent_map (cnt := cnt) fun d hd => bump_ne fun e => ?_]
            · exact K.q
            · have := I.sub z hz d hd
              obtain ⟨g1, g2⟩ := Fo.mem_kids.mp this
              rw [e, h2] at g2
              exact q g2.symm
          · rw [li.idT]; exact K.srt
        · obtain ⟨m, M⟩ := I.node z hz
          refine ⟨m, ?_, M.id, fun z0 => ?_, M.act, ?_, ?_⟩
          · unfold fin1; rw [upT_ne az, upT_ne fun e => y (I.inj hz hc' e)]; exact M.at_
          · rw [bump_ne y]; exact M.wd z0
          · rw [ent_map (cnt := cnt) fun d hd => bump_ne fun e => ?_]
            · exact M.q
            · have := I.sub z hz d hd
              obtain ⟨g1, g2⟩ := Fo.mem_kids.mp this
              rw [e, h2] at g2
              exact q g2.symm
          · rw [li.idT]; exact M.srt
    · by_cases q : z = x
      · subst q
        rw [setQ_self] at hd
        rcases List.mem_append.mp hd with y | y
        · exact I.sub z hz d (List.mem_of_mem_take y)
        · rcases List.mem_cons.mp y with y | y
          · subst y; exact hc
          · exact I.sub z hz d (List.mem_of_mem_drop y)
      · rw [setQ_ne q] at hd; exact I.sub z hz d hd
    · by_cases q : z = x
      · subst q
        rw [setQ_self]
        refine (List.perm_middle.nodup_iff).mpr ?_
        rw [List.take_append_drop]
        exact List.nodup_cons.mpr ⟨nc, I.nd z hz⟩
      · rw [setQ_ne q]; exact I.nd z hz
    · cases hT : T a with
      | none => rw [li.none a hT] at ha; cases ha
      | some m' => exact I.only a m' hT
  · refine List.perm_middle.trans ?_
    rw [List.take_append_drop]
theorem IQ.close (o : FoOk F) {x : Int} (hx : F.has x) : ∀ (tk : List Int) (T : Tree) (cnt : Int → Int) (Q : Int → List Int), IQ F T cnt Q → tk.Nodup → (∀ c ∈ tk, c ∈ F.kids x ∧ c ∉ Q x) →
    ∃ Q', IQ F (closeL T (F.ad x) (tk.map (ent F cnt))) (fun d => cnt d + if d ∈ tk then 1 else 0) Q' ∧ (Q' x).Perm (tk ++ Q x) ∧ ∀ z, z ≠ x → Q' z = Q z
  | [], T, cnt, Q, I, _, _ => ⟨Q, by simpa [closeL] using I, .refl _, fun _ _ => rfl⟩
  | c :: tk, T, cnt, Q, I, nd, h => by
    obtain ⟨hc, nc⟩ := h c (.head _)
    rw [List.nodup_cons] at nd
    obtain ⟨n, N⟩ := I.node x hx
    obtain ⟨k, K⟩ := I.node c (.inr (Fo.mem_kids.mp hc).1)
    obtain ⟨l, I1, p⟩ := I.fin o hx hc nc N K
    rw [List.map_cons]
    have e : closeL T (F.ad x) (ent F cnt c :: tk.map (ent F cnt)) = closeL (fin1 T (F.ad x) (F.ad c) (256 * cnt c / F.wt c) n k) (F.ad x) (tk.map (ent F cnt)) := closeL_cons N.at_ K.at_
    rw [e, ← ent_map (cnt := cnt) (cnt' := bump cnt c) fun d hd => bump_ne fun q => nd.1 (q ▸ hd)]
    obtain ⟨Q', I2, p2, off⟩ := IQ.close o hx tk _ _ _ I1 nd.2 fun d hd => ⟨(h d (.tail _ hd)).1, fun m => by
      rw [setQ_self] at m
      rcases List.mem_cons.mp (p.mem_iff.mp m) with q | q
      · exact nd.1 (q ▸ hd)
      · exact (h d (.tail _ hd)).2 q⟩
    refine ⟨Q', ?_, ?_, fun z hz => (off z hz).trans (setQ_ne hz)⟩
    · have : (fun d => bump cnt c d + if d ∈ tk then 1 else 0) = fun d => cnt d + if d ∈ c :: tk then 1 else 0 := by
        funext d
        unfold bump
        by_cases q : d = c
        · subst q; simp [nd.1]
        · simp [q]
      rw [← this]; exact I2
    · rw [setQ_self] at p2
      refine p2.trans ((List.Perm.append_left tk p).trans ?_)
      exact List.perm_middle
end
inductive Up (F : Fo) : Int → Int → List Int → Prop
  | here {x : Int} : Up F x x []
  | step {s x : Int} {l : List Int} : s ∈ F.ids → Up F (F.par s) x l → Up F s x (s :: l)
theorem Up.snoc {F : Fo} {s c : Int} {l : List Int} (u : Up F s c l) (hc : c ∈ F.ids) : Up F s (F.par c) (l ++ [c]) := by
  induction u with
  | here => exact .step hc .here
  | step hs _ ih => exact .step hs (ih hc)
theorem Up.rk {F : Fo} (o : FoOk F) {s x : Int} {l : List Int} (u : Up F s x l) : F.rk s ≤ F.rk x ∧ (l ≠ [] → F.rk s < F.rk x) ∧ ∀ c ∈ l, F.rk c < F.rk x := by
  induction u with
  | here => exact ⟨Nat.le_refl _, fun z => (z rfl).elim, fun c hc => by cases hc⟩
  | step hs _ ih =>
    have h := (o.up _ hs).2
    refine ⟨by omega, fun _ => by omega, fun c hc => ?_⟩
    rcases List.mem_cons.mp hc with e | e
    · subst e; omega
    · exact ih.2.2 c e
theorem Up.mem {F : Fo} {s x : Int} {l : List Int} (u : Up F s x l) : ∀ c ∈ l, c ∈ F.ids ∧ ∃ l', Up F c x (c :: l') := by
  induction u with
  | here => intro c hc; cases hc
  | step hs u ih =>
    intro c hc
    rcases List.mem_cons.mp hc with e | e
    · subst e; exact ⟨hs, _, .step hs u⟩
    · exact ih c e
noncomputable def Desc (F : Fo) (x d : Int) : Prop := ∃ l, Up F d x (d :: l)
theorem Desc.kid {F : Fo} {x c : Int} (h : c ∈ F.kids x) : Desc F x c := by
  obtain ⟨h1, rfl⟩ := Fo.mem_kids.mp h
  exact ⟨[], .step h1 .here⟩
theorem Desc.trans {F : Fo} {x y d : Int} (h : y ∈ F.kids x) (u : Desc F y d) : Desc F x d := by
  obtain ⟨l, u⟩ := u
  obtain ⟨h1, rfl⟩ := Fo.mem_kids.mp h
  exact ⟨l ++ [y], u.snoc h1⟩
theorem Desc.not_kid {F : Fo} (o : FoOk F) {x y c : Int} (hy : y ∈ F.kids x) (hc : c ∈ F.kids x) : ¬ Desc F y c := by
  rintro ⟨l, u⟩
  obtain ⟨h1, rfl⟩ := Fo.mem_kids.mp hy
  obtain ⟨h2, e⟩ := Fo.mem_kids.mp hc
  cases u with
  | step _ u =>
    rw [e] at u
    have := (u.rk o).1
    have := (o.up _ h1).2
    omega
noncomputable def LvOk (F : Fo) (lv : Int → Prop) : Prop := ∀ x, F.has x → (lv x ↔ F.act x = true ∨ ∃ c ∈ F.kids x, lv c)
noncomputable def FirstI (F : Fo) (lv : Int → Prop) (cnt : Int → Int) (c : Int) : Prop := ∀ d ∈ F.kids (F.par c), lv d → KLe (256 * cnt c / F.wt c) c (256 * cnt d / F.wt d) d
theorem FirstI.eq {F : Fo} {lv : Int → Prop} {cnt cnt' : Int → Int} {c : Int} (h : FirstI F lv cnt' c) (hc : lv c) (e : ∀ d, lv d → cnt' d = cnt d) : FirstI F lv cnt c := fun d hd ld => by
  have := h d hd ld
  rwa [e c hc, e d ld] at this
theorem Up.top {F : Fo} {s x : Int} {l : List Int} (u : Up F s x l) (h : l ≠ []) : ∃ e ∈ l, e ∈ F.kids x := by
  induction u with
  | here => exact (h rfl).elim
  | @step s x l hs u ih =>
    cases u with
    | here => exact ⟨s, .head _, Fo.mem_kids.mpr ⟨hs, rfl⟩⟩
    | step h' u' =>
      obtain ⟨e, he, k⟩ := ih (by simp)
      exact ⟨e, .tail _ he, k⟩
noncomputable def Res (F : Fo) (lv : Int → Prop) (cnt cnt' : Int → Int) (x : Int) : Option Int → Prop
  | none => (∀ c ∈ F.kids x, ¬ lv c) ∧ ∀ d, lv d → cnt' d = cnt d
  | some s => ∃ l, Up F s x l ∧ l ≠ [] ∧ F.act s = true ∧ (∀ c ∈ l, c ≠ s → F.act c = false) ∧ (∀ c ∈ l, lv c ∧ FirstI F lv cnt c) ∧ ∀ d, lv d → cnt' d = cnt d + if d ∈ l then 1 else 0
noncomputable def TurnOk (F : Fo) (lv : Int → Prop) (f : Nat) : Prop := ∀ T cnt Q x, F.has x → F.rk x < f → F.act x = false → IQ F T cnt Q → (∀ z, F.has z → F.rk z ≤ F.rk x → (Q z).Perm (F.kids z)) →
  ∃ cnt' Q', IQ F (runN f T (F.ad x)).2 cnt' Q' ∧ (∀ z, F.has z → F.rk z ≤ F.rk x → (Q' z).Perm (F.kids z)) ∧ (∀ z, F.rk x < F.rk z → Q' z = Q z) ∧ (∀ d, ¬ Desc F x d → cnt' d = cnt d) ∧ Res F lv cnt cnt' x (runN f T (F.ad x)).1
noncomputable def ResP (F : Fo) (lv : Int → Prop) (cnt cnt' : Int → Int) (cs tk qx : List Int) : Option Int → Prop
  | none => (∀ c ∈ cs, ¬ lv c) ∧ qx = [] ∧ ∀ d, lv d → cnt' d = cnt d
  | some s => ∃ tk0 c l, tk = tk0 ++ [c] ∧ (∀ y ∈ tk0, ¬ lv y) ∧ lv c ∧ Up F s c l ∧ F.act s = true ∧ (∀ e ∈ l, e ≠ s → F.act e = false) ∧ (c ≠ s → F.act c = false) ∧ (∀ e ∈ l, lv e ∧ FirstI F lv cnt e) ∧ ∀ d, lv d → cnt' d = cnt d + if d ∈ l then 1 else 0
theorem pop_ok {F : Fo} (o : FoOk F) {lv : Int → Prop} (L : LvOk F lv) {f : Nat} (TI : TurnOk F lv f) {x : Int} (hx : F.has x) (hf : F.rk x ≤ f) : ∀ (cs : List Int) (T : Tree) (cnt : Int → Int) (Q : Int → List Int) (pp : List (Int × Addr)), IQ F T cnt Q → Q x = cs → (∀ z, F.has z → F.rk z < F.rk x → (Q z).Perm (F.kids z)) →
    ∃ r T' cnt' Q' tk, popL (runN f) (F.ad x) (cs.map (ent F cnt)) T pp = (r, T', pp ++ tk.map (ent F cnt)) ∧ IQ F T' cnt' Q' ∧ cs = tk ++ Q' x ∧ (∀ z, F.has z → F.rk z < F.rk x → (Q' z).Perm (F.kids z)) ∧ (∀ z, F.rk x < F.rk z → Q' z = Q z) ∧ (∀ d, (∀ y ∈ cs, ¬ Desc F y d) → cnt' d = cnt d) ∧ ResP F lv cnt cnt' cs tk (Q' x) r
  | [], T, cnt, Q, pp, I, e, full => ⟨none, T, cnt, Q, [], by simp [popL], I, by rw [e]; rfl, full, fun _ _ => rfl, fun _ _ => rfl, fun _ h => (by cases h), e, fun _ _ => rfl⟩
  | c :: cs, T, cnt, Q, pp, I, e, full => by
    obtain ⟨n, N⟩ := I.node x hx
    have hck : c ∈ F.kids x := I.sub x hx c (by rw [e]; exact .head _)
    obtain ⟨h1, h2⟩ := Fo.mem_kids.mp hck
    have hc : F.has c := .inr h1
    obtain ⟨k, K⟩ := I.node c hc
    have r := (o.up c h1).2
    rw [h2] at r
    have I1 := I.pop hx e N
    have csk : ∀ d ∈ cs, d ∈ F.kids x := fun d hd => I.sub x hx d (by rw [e]; exact .tail _ hd)
    have rkne : ∀ {z}, F.rk z < F.rk x → z ≠ x := fun h q => by rw [q] at h; exact absurd h (Nat.lt_irrefl _)
    have rkne' : ∀ {z}, F.rk x < F.rk z → z ≠ x := fun h q => by rw [q] at h; exact absurd h (Nat.lt_irrefl _)
    rw [List.map_cons]
    cases ha : F.act c with
    | true =>
      have p : popL (runN f) (F.ad x) (ent F cnt c :: cs.map (ent F cnt)) T pp = (some k.id, upT T (F.ad x) { n with q := cs.map (ent F cnt) }, pp ++ [ent F cnt c]) := popL_act N.at_ K.at_ (K.act.trans ha)
      refine ⟨some c, _, cnt, _, [c], by rw [p, K.id]; rfl, I1, by rw [setQ_self]; rfl, fun z hz h => ?_, fun z h => setQ_ne (rkne' h), fun _ _ => rfl, [], c, [], rfl, fun _ h => (by cases h), (L c hc).mpr (.inl ha), .here, ha, fun _ h => (by cases h), fun q => (q rfl).elim, fun _ h => (by cases h), fun d _ => by simp⟩
      rw [setQ_ne (rkne h)]; exact full z hz h
    | false =>
      obtain ⟨cnt1, Q1, J, fl, off, fr, res⟩ := TI _ cnt (setQ Q x cs) c hc (by omega) ha I1 fun z hz h => by
        rw [setQ_ne (rkne (by omega))]; exact full z hz (by omega)
      have Q1x : Q1 x = cs := (off x r).trans setQ_self
      have full1 : ∀ z, F.has z → F.rk z < F.rk x → (Q1 z).Perm (F.kids z) := fun z hz h => by
        by_cases q : F.rk z ≤ F.rk c
        · exact fl z hz q
        · rw [off z (by omega), setQ_ne (rkne h)]; exact full z hz h
      have off1 : ∀ z, F.rk x < F.rk z → Q1 z = Q z := fun z h => (off z (by omega)).trans (setQ_ne (rkne' h))
      have sib : ∀ d ∈ cs, cnt1 d = cnt d := fun d hd => fr d (Desc.not_kid o hck (csk d hd))
      cases hr : runN f (upT T (F.ad x) { n with q := cs.map (ent F cnt) }) (F.ad c) with
      | mk r1 T2 =>
        rw [hr] at J res
        dsimp only at J res
        cases r1 with
        | none =>
          have p : popL (runN f) (F.ad x) (ent F cnt c :: cs.map (ent F cnt)) T pp = popL (runN f) (F.ad x) (cs.map (ent F cnt)) T2 (pp ++ [ent F cnt c]) := popL_none N.at_ K.at_ (K.act.trans ha) hr
          obtain ⟨dead, eqv⟩ := res
          have nl : ¬ lv c := fun l => by
            rcases (L c hc).mp l with q | ⟨d, hd, q⟩
            · rw [ha] at q; cases q
            · exact dead d hd q
          obtain ⟨r, T', cnt', Q', tk, p2, J2, split, full2, off2, fr2, res2⟩ := pop_ok o L TI hx hf cs T2 cnt1 Q1 (pp ++ [ent F cnt c]) J Q1x full1
          have tks : ∀ d ∈ tk, cnt1 d = cnt d := fun d hd => sib d (by rw [split]; exact List.mem_append_left _ hd)
          rw [ent_map sib, ent_map tks] at p2
          refine ⟨r, T', cnt', Q', c :: tk, by rw [p, p2, List.map_cons, List.append_assoc]; rfl, J2, by rw [split]; simp [← split], full2, fun z h => (off2 z h).trans (off1 z h), fun d hd => ?_, ?_⟩
          · rw [fr2 d fun y hy => hd y (.tail _ hy), fr d (hd c (.head _))]
          · cases r with
            | none =>
              obtain ⟨a1, a2, a3⟩ := res2
              refine ⟨fun d hd => ?_, a2, fun d ld => (a3 d ld).trans (eqv d ld)⟩
              rcases List.mem_cons.mp hd with q | q
              · subst q; exact nl
              · exact a1 d q
            | some s =>
              obtain ⟨tk0, c', l, a1, a2, a3, a4, a5, a6, a7, a8, a9⟩ := res2
              refine ⟨c :: tk0, c', l, by rw [a1]; rfl, fun y hy => ?_, a3, a4, a5, a6, a7, fun e he => ⟨(a8 e he).1, (a8 e he).2.eq (a8 e he).1 eqv⟩, fun d ld => by rw [a9 d ld, eqv d ld]⟩
              rcases List.mem_cons.mp hy with q | q
              · subst q; exact nl
              · exact a2 y q
        | some s =>
          have p : popL (runN f) (F.ad x) (ent F cnt c :: cs.map (ent F cnt)) T pp = (some s, T2, pp ++ [ent F cnt c]) := popL_some N.at_ K.at_ (K.act.trans ha) hr
          obtain ⟨l, a1, a2, a3, a4, a5, a6⟩ := res
          obtain ⟨d, hd, dk⟩ := a1.top a2
          refine ⟨some s, T2, cnt1, Q1, [c], by rw [p]; rfl, J, by rw [Q1x]; rfl, full1, off1, fun d hd => fr d (hd c (.head _)), [], c, l, rfl, fun _ h => (by cases h), (L c hc).mpr (.inr ⟨d, dk, (a5 d hd).1⟩), a1, a3, a4, fun _ => ha, a5, a6⟩
theorem turn_ok {F : Fo} (o : FoOk F) {lv : Int → Prop} (L : LvOk F lv) : ∀ f, TurnOk F lv f
  | 0 => fun T cnt Q x _ h => absurd h (Nat.not_lt_zero _)
  | f + 1 => fun T cnt Q x hx hf ha I full => by
    obtain ⟨n, N⟩ := I.node x hx
    obtain ⟨r, T', cnt', Q', tk, p, J, split, full1, off1, fr, res⟩ := pop_ok o L (turn_ok o L f) hx (by omega) (Q x) T cnt Q [] I rfl fun z hz h => full z hz (by omega)
    rw [← N.q, List.nil_append] at p
    have e : runN (f + 1) T (F.ad x) = (r, closeL T' (F.ad x) (tk.map (ent F cnt))) := by
      conv => lhs; unfold runN
      simp only [N.at_, p]
    have ndQ := I.nd x hx
    rw [split] at ndQ
    have ap := List.nodup_append.mp ndQ
    have tkk : ∀ c ∈ tk, c ∈ F.kids x := fun c hc => I.sub x hx c (by rw [split]; exact List.mem_append_left _ hc)
    have cnk : ∀ c ∈ F.kids x, cnt' c = cnt c := fun c hc => fr c fun y hy => Desc.not_kid o (I.sub x hx y hy) hc
    rw [← ent_map fun c hc => cnk c (tkk c hc)] at e
    obtain ⟨Q2, J2, pm, off2⟩ := IQ.close o hx tk T' cnt' Q' J ap.1 fun c hc => ⟨tkk c hc, fun m => ap.2.2 c hc c m rfl⟩
    rw [← split] at pm
    have rkne' : ∀ {z}, F.rk x < F.rk z → z ≠ x := fun h q => by rw [q] at h; exact absurd h (Nat.lt_irrefl _)
    have fullx := full x hx (Nat.le_refl _)
    refine ⟨_, Q2, by rw [e]; exact J2, fun z hz h => ?_, fun z h => (off2 z (rkne' h)).trans (off1 z h), fun d hd => ?_, ?_⟩
    · by_cases q : z = x
      · subst q; exact pm.trans fullx
      · rw [off2 z q]
        refine full1 z hz (Nat.lt_of_le_of_ne h fun e => q ?_)
        unfold Fo.rk at e
        have i1 : (0 :: F.ids).idxOf z < (0 :: F.ids).length := List.idxOf_lt_length_of_mem (by rcases hz with rfl | y <;> simp [*])
        have i2 : (0 :: F.ids).idxOf x < (0 :: F.ids).length := List.idxOf_lt_length_of_mem (by rcases hx with rfl | y <;> simp [*])
        have := o.len
        rw [List.length_cons] at i1 i2
        have ei : (0 :: F.ids).idxOf z = (0 :: F.ids).idxOf x := by omega
        have g1 := List.getElem_idxOf (xs := 0 :: F.ids) (x := z) (by rw [List.length_cons]; omega)
        have g2 := List.getElem_idxOf (xs := 0 :: F.ids) (x := x) (by rw [List.length_cons]; omega)
        rw [← g1, ← g2]
        congr 1
    · rw [if_neg fun m => hd (Desc.kid (tkk d m)), Int.add_zero]
      exact fr d fun y hy u => hd (Desc.trans (I.sub x hx y hy) u)
    · rw [e]
      dsimp only
      cases r with
      | none =>
        obtain ⟨a1, a2, a3⟩ := res
        refine ⟨fun c hc => a1 c (fullx.mem_iff.mpr hc), fun d ld => ?_⟩
        dsimp only
        rw [if_neg fun m => a1 d (by rw [split]; exact List.mem_append_left _ m) ld, Int.add_zero, a3 d ld]
      | some s =>
        obtain ⟨tk0, c, l, a1, a2, a3, a4, a5, a6, a7, a8, a9⟩ := res
        have hck : c ∈ F.kids x := tkk c (by rw [a1]; simp)
        obtain ⟨h1, h2⟩ := Fo.mem_kids.mp hck
        have u := a4.snoc h1
        rw [h2] at u
        have cl : c ∉ l := fun m => absurd ((a4.rk o).2.2 c m) (Nat.lt_irrefl _)
        refine ⟨l ++ [c], u, by simp, a5, fun d hd hs => ?_, fun d hd => ?_, fun d ld => ?_⟩
        · rcases List.mem_append.mp hd with q | q
          · exact a6 d q hs
          · rw [List.mem_singleton] at q; subst q; exact a7 hs
        · rcases List.mem_append.mp hd with q | q
          · exact a8 d q
          · rw [List.mem_singleton] at q; subst q
            refine ⟨a3, fun y hy ly => ?_⟩
            rw [h2] at hy
            have m := fullx.mem_iff.mpr hy
            have s := N.srt
            rw [N.q, split, a1] at s
            rw [split, a1] at m
            rw [List.append_assoc] at m s
            rcases List.mem_append.mp m with q | q
            · exact (a2 y q ly).elim
            · rw [List.map_append] at s
              have s2 := (List.pairwise_append.mp s).2.1
              rcases List.mem_cons.mp q with q | q
              · subst q; exact KLe.refl
              · have := (List.pairwise_cons.mp s2).1 (ent F cnt y) (List.mem_map.mpr ⟨y, q, rfl⟩)
                rw [NotAfter.iff] at this
                unfold ent at this
                dsimp only at this
                rw [I.idT (.inr h1), I.idT (.inr (Fo.mem_kids.mp hy).1)] at this
                exact this
        · dsimp only
          rw [a9 d ld, a1]
          have e1 : (d ∈ tk0 ++ [c]) ↔ d = c := by
            rw [List.mem_append, List.mem_singleton]
            exact ⟨fun z => z.elim (fun z => (a2 d z ld).elim) id, .inr⟩
          have e2 : (d ∈ l ++ [c]) ↔ (d ∈ l ∨ d = c) := by rw [List.mem_append, List.mem_singleton]
          by_cases q : d = c
          · subst q
            rw [if_neg cl, if_pos (e1.mpr rfl), if_pos (e2.mpr (.inr rfl))]; omega
          · by_cases q2 : d ∈ l
            · rw [if_pos q2, if_neg (fun z => q (e1.mp z)), if_pos (e2.mpr (.inl q2))]; omega
            · rw [if_neg q2, if_neg (fun z => q (e1.mp z)), if_neg (fun z => (e2.mp z).elim q2 q)]; omega
structure Rows (σ : MHeap) (rd : Addr) (F : Fo) (ra : Int → Addr) : Prop where
  d : σ.D rd = some ((0 :: F.ids).map fun x => (x, MV.ref (ra x)))
  r : ∀ x, F.has x → σ.L (ra x) = some [if x = 0 then .none else .int (F.par x), .bool (F.act x), .int (F.wt x)]
theorem Fo.has_iff {F : Fo} {x : Int} : F.has x ↔ x ∈ 0 :: F.ids := by unfold Fo.has; simp
theorem atK_map {l : List Int} {f : Int → MV} {k : Int} (h : k ∈ l) : atK (l.map fun x => (x, f x)) k = some (f k) := by
  induction l with
  | nil => cases h
  | cons a r ih =>
    unfold atK at ih ⊢
    rw [List.map_cons, List.find?_cons]
    by_cases q : a = k
    · subst q; simp
    · have : k ∈ r := (List.mem_cons.mp h).elim (fun z => (q z.symm).elim) id
      simpa [q] using ih this
theorem Rows.at_ {σ : MHeap} {rd : Addr} {F : Fo} {ra : Int → Addr} (R : Rows σ rd F ra) {x : Int} (h : F.has x) : atK ((0 :: F.ids).map fun x => (x, MV.ref (ra x))) x = some (.ref (ra x)) := atK_map (f := fun x => .ref (ra x)) (Fo.has_iff.mp h)
structure LiveI (F : Fo) (l : List Int) (y : Option Int) : Prop where
  nd : l.Nodup
  has : ∀ x ∈ l, F.has x
  up : ∀ x ∈ l, x ≠ 0 → F.par x ∈ l ∨ y = some (F.par x)
  sup : ∀ x ∈ l, F.act x = true ∨ ∃ c ∈ F.kids x, c ∈ l
  yh : ∀ z, y = some z → F.has z ∧ (F.act z = true ∨ ∃ c ∈ F.kids z, c ∈ l)
theorem LiveI.stop {F : Fo} {l : List Int} {z : Int} (L : LiveI F l (some z)) (h : z ∈ l) : LiveI F l none := ⟨L.nd, L.has, fun x hx x0 => .inl ((L.up x hx x0).elim id fun e => by cases e; exact h), L.sup, fun _ e => by cases e⟩
theorem LiveI.start {F : Fo} {l : List Int} {x : Int} (L : LiveI F l none) (h : F.has x) (a : F.act x = true) : LiveI F l (some x) := ⟨L.nd, L.has, fun x hx x0 => .inl ((L.up x hx x0).elim id fun e => by cases e), L.sup, fun z e => by cases e; exact ⟨h, .inl a⟩⟩
noncomputable def upOf (F : Fo) (z : Int) : Option Int := if z = 0 then none else some (F.par z)
theorem LiveI.more {F : Fo} (o : FoOk F) {l : List Int} {z : Int} (L : LiveI F l (some z)) (h : z ∉ l) : LiveI F (l ++ [z]) (upOf F z) := by
  obtain ⟨hz, az⟩ := L.yh z rfl
  refine ⟨?_, fun x hx => ?_, fun x hx x0 => ?_, fun x hx => ?_, fun w e => ?_⟩
  · rw [List.nodup_append]
    exact ⟨L.nd, by simp, fun a ha b hb q => h (by rw [List.mem_singleton] at hb; rw [← hb, ← q]; exact ha)⟩
  · rcases List.mem_append.mp hx with q | q
    · exact L.has x q
    · rw [List.mem_singleton] at q; subst q; exact hz
  · rcases List.mem_append.mp hx with q | q
    · rcases L.up x q x0 with y | y
      · exact .inl (List.mem_append_left _ y)
      · cases y; exact .inl (by simp)
    · rw [List.mem_singleton] at q; subst q; right; unfold upOf; rw [if_neg x0]
  · have w : F.act x = true ∨ ∃ c ∈ F.kids x, c ∈ l := by
      rcases List.mem_append.mp hx with q | q
      · exact L.sup x q
      · rw [List.mem_singleton] at q; subst q; exact az
    exact w.imp id fun ⟨c, a, b⟩ => ⟨c, a, List.mem_append_left _ b⟩
  · unfold upOf at e
    split at e
    · cases e
    · rename_i z0
      cases e
      have hz' : z ∈ F.ids := hz.elim (fun q => (z0 q).elim) id
      exact ⟨(o.up z hz').1, .inr ⟨z, Fo.mem_kids.mpr ⟨hz', rfl⟩, by simp⟩⟩
theorem LiveI.lv {F : Fo} (o : FoOk F) {l : List Int} (L : LiveI F l none) (h : ∀ x, F.has x → F.act x = true → x ∈ l) : LvOk F (fun x => x ∈ l) := fun x hx => ⟨fun m => L.sup x m, fun a => a.elim (h x hx) fun ⟨c, hc, m⟩ => by
  obtain ⟨h1, h2⟩ := Fo.mem_kids.mp hc
  exact h2 ▸ (L.up c m (o.ne0 h1)).elim id fun e => by cases e⟩
theorem LiveI.len {F : Fo} (o : FoOk F) {l : List Int} {y : Option Int} (L : LiveI F l y) : l.length ≤ 10 := by
  have := len_sub (m := 0 :: F.ids) L.nd fun x hx => Fo.has_iff.mp (L.has x hx)
  have := o.len
  rw [List.length_cons] at *
  omega
noncomputable def optV : Option Int → MV
  | none => .none
  | some z => .int z
noncomputable def msr (F : Fo) : Option Int → Nat
  | none => 0
  | some z => 11 - F.rk z
theorem msr_up {F : Fo} (o : FoOk F) {z : Int} (h : F.has z) : msr F (upOf F z) < msr F (some z) := by
  have r : ∀ x, F.rk x ≤ 10 := fun x => by unfold Fo.rk; omega
  unfold upOf
  by_cases e : z = 0
  · rw [if_pos e]; have := r z; show 0 < 11 - _; omega
  · rw [if_neg e]
    have := (o.up z (h.elim (fun q => (e q).elim) id)).2
    have := r (F.par z)
    show 11 - _ < 11 - _
    omega
section
variable {X : Fx} {m : Loc} {σ : MHeap} {KE : Value → MHeap → Prop} {K : MV → MHeap → Prop}
theorem Rows.fr {σ' : MHeap} {rd : Addr} {F : Fo} {ra : Int → Addr} (R : Rows σ rd F ra) (f : Fr0 σ σ') : Rows σ' rd F ra := ⟨(f rd (domD R.d)).2.2.1.trans R.d, fun x hx => (f _ (domL (R.r x hx))).2.1.trans (R.r x hx)⟩
theorem Rows.setE {rd : Addr} {F : Fo} {ra : Int → Addr} (R : Rows σ rd F ra) {d : Addr} {e : Option Nat} : Rows (σ.setE d e) rd F ra := ⟨R.d, R.r⟩
theorem Fr0.unE {d : Addr} {ep : Option Nat} {σ' : MHeap} (f : Fr0 (σ.setE d ep) σ') : Fr0 σ (σ'.setE d (σ.E d)) := fun a z => by
  have g := f a z
  refine ⟨g.1, g.2.1, g.2.2.1, g.2.2.2.1, ?_⟩
  show (if a = d then σ.E d else σ'.E a) = σ.E a
  by_cases e : a = d
  · subst e; rw [if_pos rfl]
  · rw [if_neg e, g.2.2.2.2]; show (if a = d then ep else σ.E a) = σ.E a; rw [if_neg e]
theorem sp_live (hC : Of X.C) (hh : X.A.handled = none) {r : Nat} (hr : Room X.A (r + 1)) {rd : Addr} {F : Fo} {ra : Int → Addr} (R : Rows σ rd F ra) (o : FoOk F)
    (h : ∀ σ' la l, Fr0 σ σ' → ¬ σ.Dom la → σ'.L la = some (nm l) → LiveI F l none → (∀ x, F.has x → F.act x = true → x ∈ l) → K (.ref la) σ') :
    CallV X m σ (.ref a__law_live) [.ref rd] [] K KE := by
  refine cv_fn (ok__law_live hC) hr.depth (m₀ := [("rows", .ref rd)]) rfl (by kernel_rfl) (b1 fun v => by kernel_rfl) fun L => ?_
  have hr' := hr.deeper (callEnv (d__law_live X.C) L a__law_live)
  refine know_E (KE := fun x _ σ' => KE x σ') R.d fun ep => ?_
  have R0 : Rows (σ.setE rd (some ep)) rd F ra := R.setE
  have he0 : (σ.setE rd (some ep)).E rd = some ep := setE_self
  have hf0 : ∀ σ', Fr0 (σ.setE rd (some ep)) σ' → Fr0 σ (σ'.setE rd (σ.E rd)) := fun σ' f => f.unE
  have hnd0 : ∀ a, ¬ (σ.setE rd (some ep)).Dom a → ¬ σ.Dom a := fun a z => z
  generalize hσ0 : σ.setE rd (some ep) = σ0 at R0 he0 hf0 hnd0
  conv in fnBody _ => whnf
  walk_at "go"
  refine ⟨by decide, fun la hla => ?_⟩
  walk_at "go"
  have la0 : (σ0.setL la []).L la = some (nm []) := up_self _ _ _
  have f0 : Fr0 σ0 (σ0.setL la []) := Fr0.refl.step SameOff.setL hla
  generalize σ0.setL la [] = σ1 at la0 f0 ⊢
  have lenF : (0 :: F.ids).length = F.ids.length + 1 := rfl
  refine r1_For_dict (fun i m' σ' => ([("live", .ref la), ("rows", .ref rd)] : Loc) <:+ m' ∧ i ≤ F.ids.length + 1 ∧ Fr0 σ0 σ' ∧ ∃ l, σ'.L la = some (nm l) ∧ LiveI F l none ∧ ∀ x ∈ (0 :: F.ids).take i, F.act x = true → x ∈ l) (F.ids.length + 1) hh (fun _ => rfl) ?_
  walk_at "ex"
  refine ⟨rd, (0 :: F.ids).map fun x => (x, MV.ref (ra x)), ep, rfl, by rw [List.length_map]; rfl, ⟨List.suffix_refl _, Nat.zero_le _, f0, [], la0, ⟨List.nodup_nil, fun _ h => (by cases h), fun _ h => (by cases h), fun _ h => (by cases h), fun _ h => (by cases h)⟩, fun x hx => (by cases hx)⟩, ?_, ?_, ?_⟩
  · rintro i m' σ' ⟨_, hi, f, _⟩
    exact ⟨hi, (R0.fr f).d, (f rd (domD R0.d)).2.2.2.2.trans he0⟩
  · rintro i m' σ2 k v hkv ⟨hb, hi, f2, l, hl2, I2, all2⟩
    have hi' : i < (0 :: F.ids).length := by
      obtain ⟨z, _⟩ := List.getElem?_eq_some_iff.mp hkv
      rwa [List.length_map] at z
    have hkx : k = (0 :: F.ids)[i] := by
      rw [List.getElem?_map, List.getElem?_eq_getElem hi'] at hkv
      exact (congrArg (·.1) (Option.some.inj hkv)).symm
    have hk : F.has k := Fo.has_iff.mpr (by rw [hkx]; exact List.getElem_mem _)
    have R2 := R0.fr f2
    refine AsT.forget hb ?_
    walk_at "ex"
    walk_at "bind"
    walk_at "st"
    refine RunL.mono (K := fun f m' σ' => ∃ y, f = FlowM.next ∧ m' = ([("y", optV y), ("x", .int k), ("live", .ref la), ("rows", .ref rd)] : Loc) ∧ σ' = σ2 ∧ LiveI F l y ∧ (F.act k = true → y = some k)) (KE := fun _ _ _ => False) ?_ ?_ fun _ _ _ z => z.elim
    · walk_at "go"
      refine sg_dict R2.d (R2.at_ hk) ?_
      walk_at "go"
      refine sg_list (R2.r k hk) (by decide) (by decide) rfl ?_
      walk_at "go"
      refine if_bool (fun ha => ?_) (fun ha => ?_)
      · walk_at "go"
        exact ⟨some k, rfl, rfl, rfl, I2.start hk ha, fun _ => rfl⟩
      · walk_at "go"
        exact ⟨none, rfl, rfl, rfl, I2, fun z => by rw [ha] at z; cases z⟩
    rintro f m' σ' ⟨y, rfl, rfl, rfl, I3, act3⟩
    walk_at "st"
    walk_at "st"
    refine r1_While (fun n m' σ'' => ∃ y l', n = msr F y ∧ ([("y", optV y), ("x", .int k), ("live", .ref la), ("rows", .ref rd)] : Loc) <:+ m' ∧ Fr0 σ0 σ'' ∧ σ''.L la = some (nm l') ∧ LiveI F l' y ∧ (∀ x ∈ l, x ∈ l') ∧ (F.act k = true → y = some k ∨ k ∈ l')) (msr F y) ⟨y, l, rfl, List.suffix_refl _, f2, hl2, I3, fun _ z => z, fun z => .inl (act3 z)⟩ ?_
    rintro n m' σ3 ⟨y3, l3, rfl, hb3, f3, hl3, I3, sub3, ac3⟩
    refine RunE.forget hb3 ?_
    have R3 := R0.fr f3
    have fin : ∀ {m2 : Loc} {l4 : List Int}, ([("live", .ref la), ("rows", .ref rd)] : Loc) <:+ m2 → σ3.L la = some (nm l4) → LiveI F l4 none → (∀ x ∈ l, x ∈ l4) → (F.act k = true → k ∈ l4) → ([("live", .ref la), ("rows", .ref rd)] : Loc) <:+ m2 ∧ i + 1 ≤ F.ids.length + 1 ∧ Fr0 σ0 σ3 ∧ ∃ l, σ3.L la = some (nm l) ∧ LiveI F l none ∧ ∀ x ∈ (0 :: F.ids).take (i + 1), F.act x = true → x ∈ l := fun {m2 l4} b hl4 I4 sub4 ac4 => ⟨b, hi', f3, l4, hl4, I4, fun x hx ax => by
      rw [List.take_succ_eq_append_getElem hi'] at hx
      rcases List.mem_append.mp hx with q | q
      · exact sub4 x (all2 x q ax)
      · rw [List.mem_singleton, ← hkx] at q; subst q; exact ac4 ax⟩
    cases y3 with
    | none =>
      walk_at "go"
      refine if_bool (fun _ => ?_) (fun z => absurd z (by simp [optV, MV.isNone]))
      walk_at "go"
      exact fin (((List.suffix_cons _ _).trans (List.suffix_cons _ _)).trans hb3) hl3 I3 sub3 fun z => (ac3 z).elim (fun q => by cases q) id
    | some z =>
      obtain ⟨hz, az⟩ := I3.yh z rfl
      walk_at "go"
      refine if_bool (fun z => absurd z (by simp [optV, MV.isNone])) (fun _ => ?_)
      walk_at "go"
      refine o_notin_list (ns := l3) hl3 ?_
      walk_at "go"
      refine if_dec (fun hin => ?_) (fun hin => ?_)
      · walk_at "go"
        exact fin (((List.suffix_cons _ _).trans (List.suffix_cons _ _)).trans hb3) hl3 (I3.stop hin) sub3 fun q => (ac3 q).elim (fun e => by cases e; exact hin) id
      · walk_at "ex"
        walk_at "ex"
        refine RunL.forget hb3 ?_
        walk_at "go"
        refine gm_list hl3 PySem.F.slot_list_append PySem.F.type_list_append ?_
        walk_at "go"
        refine cv_append hl3 (by rw [lenN]; have := I3.len o; omega) ?_
        have e4 : nm l3 ++ [optV (some z)] = nm (l3 ++ [z]) := by unfold nm optV; simp
        rw [e4]
        have f4 : Fr0 σ0 (σ3.setL la (nm (l3 ++ [z]))) := f3.step SameOff.setL hla
        have hl4 : (σ3.setL la (nm (l3 ++ [z]))).L la = some (nm (l3 ++ [z])) := up_self _ _ _
        refine ⟨noref_none, ?_⟩
        show seqK _ _ _ _ _ _ (σ3.setL la (nm (l3 ++ [z])))
        generalize σ3.setL la (nm (l3 ++ [z])) = σ4 at f4 hl4 ⊢
        have R4 := R0.fr f4
        walk_at "go"
        refine sg_dict R4.d (R4.at_ hz) ?_
        walk_at "go"
        refine sg_list (R4.r z hz) (by decide) (by decide) rfl ?_
        have eo : (if z = 0 then MV.none else .int (F.par z)) = optV (upOf F z) := by unfold upOf; split <;> rfl
        rw [eo]
        walk_at "go"
        refine wk_next (msr F (upOf F z)) (msr_up o hz) ⟨upOf F z, l3 ++ [z], rfl, List.suffix_refl _, f4, hl4, I3.more o hin, fun x hx => List.mem_append_left _ (sub3 x hx), fun q => .inr ?_⟩
        rcases ac3 q with e | e
        · cases e; simp
        · exact List.mem_append_left _ e
  · rintro m' σ' ⟨hb, _, f, l, hl, I, all⟩
    refine RunL.forget hb ?_
    walk_at "go"
    refine ⟨(f rd (domD R0.d)).2.2.2.2.trans he0, h _ la l (hf0 _ f) (hnd0 _ hla) hl I fun x hx => all x ?_⟩
    rw [List.take_of_length_le (by rw [lenF]; omega)]
    exact Fo.has_iff.mp hx
end
noncomputable def Fo.add (F : Fo) (x p w : Int) (a : Addr) : Fo := ⟨F.ids ++ [x], fun z => if z = x then p else F.par z, fun z => if z = x then w else F.wt z, fun z => if z = x then true else F.on z, fun z => if z = x then a else F.ad z⟩
section
variable {F : Fo} {x p w : Int} {a : Addr}
theorem Fo.add_has {z : Int} : (F.add x p w a).has z ↔ F.has z ∨ z = x := by
  unfold Fo.has Fo.add
  simp [or_assoc]
theorem Fo.add_rk (hx : x ∉ 0 :: F.ids) {z : Int} (hz : F.has z) : (F.add x p w a).rk z = F.rk z := by
  have hm := Fo.has_iff.mp hz
  unfold Fo.rk
  show 10 - (0 :: (F.ids ++ [x])).idxOf z = _
  rw [← List.cons_append, List.idxOf_append, if_pos hm]
theorem Fo.add_rk_new (hx : x ∉ 0 :: F.ids) : (F.add x p w a).rk x = 10 - (F.ids.length + 1) := by
  unfold Fo.rk
  show 10 - (0 :: (F.ids ++ [x])).idxOf x = _
  rw [← List.cons_append, List.idxOf_append, if_neg hx]
  simp
theorem Fo.rk_low {z : Int} (hz : F.has z) (h : F.ids.length ≤ 8) : 10 - (F.ids.length + 1) < F.rk z := by
  have := List.idxOf_lt_length_of_mem (Fo.has_iff.mp hz)
  unfold Fo.rk
  rw [List.length_cons] at this
  omega
theorem FoOk.add (o : FoOk F) (hx : x ∉ 0 :: F.ids) (hp : F.has p) (hw : 1 ≤ w ∧ w ≤ 256) (hl : F.ids.length ≤ 8) : FoOk (F.add x p w a) := by
  refine ⟨?_, fun z hz => ?_, fun z hz => ?_, ?_⟩
  · show (0 :: (F.ids ++ [x])).Nodup
    rw [← List.cons_append, List.nodup_append]
    exact ⟨o.nd, by simp, fun a ha b hb e => hx (by rw [List.mem_singleton] at hb; rw [← hb, ← e]; exact ha)⟩
  · show (F.add x p w a).has (if z = x then p else F.par z) ∧ _ < (F.add x p w a).rk (if z = x then p else F.par z)
    by_cases e : z = x
    · subst e
      rw [if_pos rfl, Fo.add_rk hx hp, Fo.add_rk_new hx]
      exact ⟨Fo.add_has.mpr (.inl hp), Fo.rk_low hp hl⟩
    · rw [if_neg e]
      have hz' : z ∈ F.ids := (List.mem_append.mp hz).elim id fun q => (e (List.mem_singleton.mp q)).elim
      obtain ⟨a1, a2⟩ := o.up z hz'
      rw [Fo.add_rk hx a1, Fo.add_rk hx (.inr hz')]
      exact ⟨Fo.add_has.mpr (.inl a1), a2⟩
  · show 1 ≤ (if z = x then w else F.wt z) ∧ (if z = x then w else F.wt z) ≤ 256
    by_cases e : z = x
    · rw [if_pos e]; exact hw
    · rw [if_neg e]
      exact o.wt z ((List.mem_append.mp hz).elim id fun q => (e (List.mem_singleton.mp q)).elim)
  · show (F.ids ++ [x]).length ≤ 9
    rw [List.length_append]; simp; omega
theorem Fo.add_kids (hx : x ∉ 0 :: F.ids) {z : Int} : (F.add x p w a).kids z = if z = p then F.kids z ++ [x] else F.kids z := by
  unfold Fo.kids
  show (F.ids ++ [x]).filter (fun c => decide ((if c = x then p else F.par c) = z)) = _
  rw [List.filter_append]
  have e1 : F.ids.filter (fun c => decide ((if c = x then p else F.par c) = z)) = F.ids.filter fun c => decide (F.par c = z) := List.filter_congr fun c hc => by
    rw [if_neg fun e => hx (by rw [← e]; exact .tail _ hc)]
  rw [e1]
  by_cases e : z = p
  · subst e; simp
  · rw [if_neg e]; simp [Ne.symm e]
theorem FoOk.kids_new (o : FoOk F) (hx : x ∉ 0 :: F.ids) : F.kids x = [] := by
  unfold Fo.kids
  rw [List.filter_eq_nil_iff]
  intro c hc q
  have := (o.up c hc).1
  rw [of_decide_eq_true q] at this
  exact hx (Fo.has_iff.mp this)
theorem ent0 {c : Int} : ent F (fun _ => 0) c = (0, F.ad c) := by unfold ent; simp
structure Bd (F : Fo) (p : PT) (T : Tree) : Prop where
  ok : FoOk F
  iq : ∃ Q, IQ F T (fun _ => 0) Q ∧ ∀ z, F.has z → (Q z).Perm (F.kids z)
  l0 : ∀ a n, T a = some n → n.last = 0 ∧ n.kids.length ≤ F.ids.length
  mx : p.mx = 1000
  root : p.root = F.ad 0
  tab : p.tab = (0 :: F.ids).map fun z => (z, F.ad z)
theorem tabAt_map {l : List Int} {f : Int → Addr} {k : Int} : tabAt (l.map fun z => (z, f z)) k = if k ∈ l then some (f k) else none := by
  induction l with
  | nil => rfl
  | cons b r ih =>
    unfold tabAt at ih ⊢
    rw [List.map_cons, List.find?_cons]
    by_cases q : b = k
    · subst q; simp
    · have q' : ¬ k = b := fun z => q z.symm
      simp only [q, decide_false, Bool.false_eq_true, if_false]
      rw [ih]; simp [q']
theorem Bd.at_ {pt : PT} {T : Tree} (B : Bd F pt T) {z : Int} (h : F.has z) : tabAt pt.tab z = some (F.ad z) := by
  rw [B.tab, tabAt_map, if_pos (Fo.has_iff.mp h)]
theorem Bd.new {pt : PT} {T : Tree} (B : Bd F pt T) {z : Int} (h : z ∉ 0 :: F.ids) : tabAt pt.tab z = none := by
  rw [B.tab, tabAt_map, if_neg h]
noncomputable def F0 (a : Addr) : Fo := ⟨[], fun _ => 0, fun _ => 1, fun _ => true, fun _ => a⟩
theorem Bd.start {pt : PT} {nx : Node} (hr : pt.root = a) (hm : pt.mx = 1000) (ht : pt.tab = [(0, a)]) (hn : ∃ d c u, nx = ⟨d, c, u, 0, 1, .none, [], [], false, 0, 0⟩) : Bd (F0 a) pt (upT (fun _ => none) a nx) := by
  obtain ⟨d, c, u, rfl⟩ := hn
  have h0 : ∀ {z}, (F0 a).has z → z = 0 := fun h => h.elim id fun q => by cases q
  refine ⟨⟨by simp [F0], fun z hz => (by cases hz), fun z hz => (by cases hz), Nat.zero_le _⟩, ⟨fun _ => [], ⟨fun z hz => ?_, fun z hz c hc => (by cases hc), fun _ _ => List.nodup_nil, fun b n hb => ?_⟩, fun z hz => .refl _⟩, fun b n hb => ?_, hm, hr, ht⟩
  · obtain rfl := h0 hz
    exact ⟨_, upT_self, rfl, fun q => (q rfl).elim, rfl, rfl, .nil⟩
  · by_cases e : b = a
    · exact ⟨0, .inl rfl, e⟩
    · rw [upT_ne e] at hb; cases hb
  · by_cases e : b = a
    · subst e; rw [upT_self] at hb; cases hb; exact ⟨rfl, Nat.le_refl _⟩
    · rw [upT_ne e] at hb; cases hb
theorem Bd.add {pt : PT} {T : Tree} (B : Bd F pt T) (hx : x ∉ 0 :: F.ids) (hp : F.has p) (hw : 1 ≤ w ∧ w ≤ 256) (hl : F.ids.length ≤ 8) {nx ny : Node} (ha : T a = none) (hy : T (F.ad p) = some ny) (hn : ∃ d c u, nx = ⟨d, c, u, x, w, .none, [], [], true, 0, 0⟩) :
    Bd (F.add x p w a) { pt with tab := pt.tab ++ [(x, a)] } (addT (upT T a nx) (F.ad p) a ny nx) := by
  obtain ⟨d, c, u, rfl⟩ := hn
  obtain ⟨Q, I, full⟩ := B.iq
  have x0 : x ≠ 0 := fun e => hx (by rw [e]; exact .head _)
  have hxn : ∀ {z}, F.has z → z ≠ x := fun h e => hx (Fo.has_iff.mp (e ▸ h))
  have ap : ∀ {z}, F.has z → F.ad z ≠ a := fun {z} h e => by
    obtain ⟨n, N⟩ := I.node z h
    have := N.at_; rw [e, ha] at this; cases this
  have ad' : ∀ {z}, F.has z → (F.add x p w a).ad z = F.ad z := fun h => if_neg (hxn h)
  have adx : (F.add x p w a).ad x = a := if_pos rfl
  obtain ⟨ny', N⟩ := I.node p hp
  rw [N.at_] at hy; cases hy
  have ny0 := (B.l0 _ _ N.at_).1
  generalize hT' : addT (upT T a ⟨d, c, u, x, w, .none, [], [], true, 0, 0⟩) (F.ad p) a ny ⟨d, c, u, x, w, .none, [], [], true, 0, 0⟩ = T'
  have far : ∀ b, b ≠ a → b ≠ F.ad p → T' b = T b := fun b h1 h2 => by rw [← hT']; unfold addT; rw [upT_ne h2, upT_ne h1, upT_ne h1]
  have atx : T' a = some ⟨d, c, u, x, w, .ref (F.ad p), [], [], true, 0, 0⟩ := by rw [← hT']; unfold addT; rw [upT_ne (Ne.symm (ap hp)), upT_self]
  have aty : T' (F.ad p) = some { ny with kids := ny.kids ++ [a], q := pushQ (idT (upT T a ⟨d, c, u, x, w, .none, [], [], true, 0, 0⟩)) ny.q (ny.last, a) } := by rw [← hT']; exact upT_self
  have id1 : ∀ {z}, F.has z → Mine.idT (upT T a ⟨d, c, u, x, w, .none, [], [], true, 0, 0⟩) (F.ad z) = z := fun {z} h => by
    obtain ⟨n, N⟩ := I.node z h
    rw [idT_of (n := n) ((upT_ne (ap h)).trans N.at_), N.id]
  have id1x : Mine.idT (upT T a ⟨d, c, u, x, w, .none, [], [], true, 0, 0⟩) a = x := idT_of upT_self
  have id2 : ∀ {z}, F.has z → Mine.idT T' (F.ad z) = z := fun {z} h => by
    obtain ⟨n, M⟩ := I.node z h
    by_cases e : F.ad z = F.ad p
    · have := I.inj h hp e; subst this
      rw [idT_of aty]; exact N.id
    · rw [idT_of (n := n) ((far _ (ap h) e).trans M.at_), M.id]
  have id2x : Mine.idT T' a = x := idT_of atx
  have kd : ∀ {z}, F.has z → ∀ c ∈ Q z, F.has c := fun {z} h c hc => .inr (Fo.mem_kids.mp (I.sub z h c hc)).1
  have re : ∀ {l : List Int}, (∀ c ∈ l, F.has c) → l.map (ent (F.add x p w a) (fun _ => 0)) = l.map (ent F fun _ => 0) := fun {l} h => List.map_congr_left fun c hc => by rw [ent0, ent0, ad' (h c hc)]
  have resrt : ∀ {q : List (Int × Addr)} {f g : Addr → Int}, (∀ e ∈ q, f e.2 = g e.2) → Srt f q → Srt g q := fun {q f g} h s => s.imp_of_mem fun {e e'} he he' z => by
    rw [NotAfter.iff] at z ⊢
    rw [← h e he, ← h e' he']; exact z
  have qent : ∀ {z n}, FoNode F T (fun _ => 0) z (Q z) n → F.has z → ∀ e ∈ n.q, ∃ c, F.has c ∧ e.2 = F.ad c := fun {z n} M h e he => by
    rw [M.q] at he
    obtain ⟨c, hc, rfl⟩ := List.mem_map.mp he
    exact ⟨c, kd h c hc, rfl⟩
  have idT1 : ∀ {z}, F.has z → Mine.idT T (F.ad z) = z := fun h => I.idT h
  generalize hk : dn (Mine.idT (upT T a ⟨d, c, u, x, w, .none, [], [], true, 0, 0⟩)) (ny.last, a) ny.q ny.q.length = k at *
  have hpq : pushQ (Mine.idT (upT T a ⟨d, c, u, x, w, .none, [], [], true, 0, 0⟩)) ny.q (ny.last, a) = ((Q p).take k ++ x :: (Q p).drop k).map (ent (F.add x p w a) fun _ => 0) := by
    unfold pushQ
    rw [hk, N.q, List.map_append, List.map_cons, re fun c hc => kd hp c (List.mem_of_mem_take hc), re fun c hc => kd hp c (List.mem_of_mem_drop hc), List.map_take, List.map_drop, ent0, adx, ny0]
  have pm : ((Q p).take k ++ x :: (Q p).drop k).Perm (x :: Q p) := by
    refine List.perm_middle.trans ?_
    rw [List.take_append_drop]
  have xq : x ∉ Q p := fun m => hxn (kd hp x m) rfl
  refine ⟨B.ok.add hx hp hw hl, ⟨fun z => if z = p then (Q p).take k ++ x :: (Q p).drop k else if z = x then [] else Q z, ⟨fun z hz => ?_, fun z hz e he => ?_, fun z hz => ?_, fun b n hb => ?_⟩, fun z hz => ?_⟩, fun b n hb => ?_, B.mx, ?_, ?_⟩
  · rcases Fo.add_has.mp hz with h | h
    · by_cases e : z = p
      · subst e
        rw [if_pos rfl]
        refine ⟨{ ny with kids := ny.kids ++ [a], q := pushQ (Mine.idT (upT T a ⟨d, c, u, x, w, .none, [], [], true, 0, 0⟩)) ny.q (ny.last, a) }, by rw [ad' h]; exact aty, N.id, fun z0 => ?_, ?_, hpq, ?_⟩
        · obtain ⟨w1, w2⟩ := N.wd z0
          exact ⟨w1.trans (if_neg (hxn h)).symm, by show ny.dft = _; rw [w2]; simp⟩
        · refine N.act.trans ?_
          unfold Fo.act
          split
          · rfl
          · exact (if_neg (hxn h)).symm
        · refine resrt (fun e he => ?_) (pushQ_srt (resrt (g := Mine.idT (upT T a ⟨d, c, u, x, w, .none, [], [], true, 0, 0⟩)) (fun e he => ?_) N.srt))
          · rcases pushQ_mem.mp he with q | q
            · subst q; rw [id1x, id2x]
            · obtain ⟨c, hc, q⟩ := qent N h e q
              rw [q, id1 hc, id2 hc]
          · obtain ⟨c, hc, q⟩ := qent N h e he
            rw [q, id1 hc, idT1 hc]
      · rw [if_neg e, if_neg (hxn h)]
        obtain ⟨n, M⟩ := I.node z h
        refine ⟨n, by rw [ad' h, far _ (ap h) fun q => e (I.inj h hp q)]; exact M.at_, M.id, fun z0 => ?_, ?_, ?_, ?_⟩
        · obtain ⟨w1, w2⟩ := M.wd z0
          exact ⟨w1.trans (if_neg (hxn h)).symm, by rw [w2]; simp⟩
        · refine M.act.trans ?_
          unfold Fo.act
          split
          · rfl
          · exact (if_neg (hxn h)).symm
        · rw [re (kd h)]; exact M.q
        · refine resrt (fun e he => ?_) M.srt
          obtain ⟨c, hc, q⟩ := qent M h e he
          rw [q, idT1 hc, id2 hc]
    · subst h
      rw [if_neg fun e => hxn hp e.symm, if_pos rfl]
      refine ⟨_, by rw [adx]; exact atx, rfl, fun _ => ⟨(if_pos rfl).symm, by simp⟩, ?_, rfl, .nil⟩
      unfold Fo.act
      rw [if_neg x0]; exact (if_pos rfl).symm
  · rw [Fo.add_kids hx]
    by_cases q : z = p
    · subst q
      rw [if_pos rfl] at he ⊢
      rcases List.mem_cons.mp (pm.mem_iff.mp he) with y | y
      · subst y; simp
      · exact List.mem_append_left _ (I.sub z hp e y)
    · rw [if_neg q] at he ⊢
      by_cases y : z = x
      · rw [if_pos y] at he; cases he
      · rw [if_neg y] at he
        exact I.sub z ((Fo.add_has.mp hz).elim id fun v => (y v).elim) e he
  · by_cases q : z = p
    · subst q
      rw [if_pos rfl]
      exact pm.nodup_iff.mpr (List.nodup_cons.mpr ⟨xq, I.nd z hp⟩)
    · rw [if_neg q]
      by_cases y : z = x
      · rw [if_pos y]; exact List.nodup_nil
      · rw [if_neg y]; exact I.nd z ((Fo.add_has.mp hz).elim id fun v => (y v).elim)
  · by_cases q : b = a
    · exact ⟨x, Fo.add_has.mpr (.inr rfl), by rw [adx]; exact q⟩
    · by_cases y : b = F.ad p
      · exact ⟨p, Fo.add_has.mpr (.inl hp), by rw [ad' hp]; exact y⟩
      · rw [far b q y] at hb
        obtain ⟨z, hz, e⟩ := I.only b n hb
        exact ⟨z, Fo.add_has.mpr (.inl hz), by rw [ad' hz]; exact e⟩
  · rw [Fo.add_kids hx]
    dsimp only
    by_cases q : z = p
    · subst q
      rw [if_pos rfl, if_pos rfl]
      refine pm.trans ((List.Perm.cons _ (full z hp)).trans ?_)
      exact (List.perm_append_singleton x (F.kids z)).symm
    · rw [if_neg q, if_neg q]
      by_cases y : z = x
      · subst y; rw [if_pos rfl, B.ok.kids_new hx]
      · rw [if_neg y]; exact full z ((Fo.add_has.mp hz).elim id fun v => (y v).elim)
  · have e3 : (F.add x p w a).ids.length = F.ids.length + 1 := by show (F.ids ++ [x]).length = _; simp
    rw [e3]
    by_cases q : b = a
    · subst q; rw [atx] at hb; cases hb; exact ⟨rfl, Nat.zero_le _⟩
    · by_cases y : b = F.ad p
      · subst y
        rw [aty] at hb; cases hb
        refine ⟨ny0, ?_⟩
        show (ny.kids ++ [a]).length ≤ _
        rw [List.length_append]
        have := (B.l0 _ _ N.at_).2
        simp; omega
      · rw [far b q y] at hb
        have := B.l0 b n hb
        exact ⟨this.1, Nat.le_succ_of_le this.2⟩
  · exact B.root.trans (ad' (.inl rfl)).symm
  · show pt.tab ++ [(x, a)] = (0 :: (F.ids ++ [x])).map _
    rw [B.tab, ← List.cons_append, List.map_append]
    congr 1
    · exact List.map_congr_left fun z hz => by rw [ad' (Fo.has_iff.mpr hz)]
    · rw [List.map_cons, List.map_nil, adx]
noncomputable def Fo.off (F : Fo) (x : Int) : Fo := { F with on := fun z => if z = x then false else F.on z }
theorem Bd.block {pt : PT} {T : Tree} (B : Bd F pt T) (hx : x ∈ F.ids) {n : Node} (hn : T (F.ad x) = some n) : Bd (F.off x) pt (actT T (F.ad x) n false) := by
  obtain ⟨Q, I, full⟩ := B.iq
  have li : Like T (actT T (F.ad x) n false) := Like.up hn ⟨rfl, rfl, rfl⟩ rfl
  obtain ⟨n', N⟩ := I.node x (.inr hx)
  rw [N.at_] at hn; cases hn
  refine ⟨⟨B.ok.nd, B.ok.up, B.ok.wt, B.ok.len⟩, ⟨Q, ⟨fun z hz => ?_, I.sub, I.nd, fun b m hb => ?_⟩, full⟩, fun b m hb => ?_, B.mx, B.root, B.tab⟩
  · by_cases e : z = x
    · subst e
      refine ⟨_, upT_self, N.id, N.wd, ?_, N.q, by rw [li.idT]; exact N.srt⟩
      unfold Fo.act
      rw [if_neg (B.ok.ne0 hx)]; exact (if_pos rfl).symm
    · obtain ⟨m, M⟩ := I.node z hz
      refine ⟨m, (upT_ne fun q => e (I.inj hz (.inr hx) q)).trans M.at_, M.id, M.wd, ?_, M.q, by rw [li.idT]; exact M.srt⟩
      refine M.act.trans ?_
      unfold Fo.act
      split
      · rfl
      · exact (if_neg e).symm
  · by_cases e : b = F.ad x
    · exact ⟨x, .inr hx, e⟩
    · have hb : upT T (F.ad x) { n with act := false } b = some m := hb
      rw [upT_ne e] at hb; exact I.only b m hb
  · by_cases e : b = F.ad x
    · subst e
      have hb : upT T (F.ad x) { n with act := false } (F.ad x) = some m := hb
      rw [upT_self] at hb; cases hb
      exact B.l0 _ n N.at_
    · have hb : upT T (F.ad x) { n with act := false } b = some m := hb
      rw [upT_ne e] at hb; exact B.l0 b m hb
end
section
variable {X : Fx} {m : Loc} {σ : MHeap} {KE : Value → MHeap → Prop} {K : MV → MHeap → Prop} {T : Tree} {t : Addr} {p : PT}
theorem PtOk.dom (O : PtOk σ t p T) {a : Addr} (h : FootP t p T a) : σ.Dom a := by
  rcases h with h | rfl | rfl | rfl
  · exact O.rep.dom h
  · exact domI O.at_.I
  · exact domS O.at_.S
  · exact domD O.at_.D
theorem PtOk.fresh {σ' : MHeap} {a : Addr} (O : PtOk σ t p T) (x : SameOff a σ σ') (h : ¬ FootP t p T a) : PtOk σ' t p T :=
  ⟨O.rep.agree fun b f => x b fun e => h (.inl (e ▸ f)), O.at_.agree (x t fun e => h (.inr (.inl e.symm))) (x _ fun e => h (.inr (.inr (.inl e.symm)))) (x _ fun e => h (.inr (.inr (.inr e.symm)))), O.nt, O.nd, O.ns⟩
theorem ev_sliceN {id : Str} {np : Pos} {lower upper : Option Expr} {p pos : Pos}
    (h : EvE X m σ (.Name id np) (fun ov σ₁ => EvP X m σ₁ lower (fun vl σ₂ => EvP X m σ₂ upper (fun vu σ₃ => ∃ l lo hi, IsL X σ₃ ov l ∧ l.length ≤ 1000000 ∧ PartM vl lo ∧ PartM vu hi ∧ ∀ b, ¬ σ₃.Dom b → K (.ref b) (σ₃.setL b (pickL l lo hi))) KE) KE) KE) :
    EvE X m σ (.Subscript (.Name id np) (.Slice lower upper none p) pos) K KE := ev_sliceG h
theorem ev_script {p pos : Pos} {slice : Expr} {b : Addr} {ns : List Int} (hn : notSlice slice = true) (hv : ∀ K, K (.raw (.ref b)) σ → EvE X m σ (.Name "script" p) K KE) (hG : GList X.C b ns) (hz : ns.length ≤ 1000)
    (h : EvE X m σ slice (fun iv σ₂ => ∃ i : Nat, iv = .int i ∧ ∃ hi : i < ns.length, K (.int ns[i]) σ₂) KE) : EvE X m σ (.Subscript (.Name "script" p) slice pos) K KE :=
  ev_subG hn (hv _ (h.mono (fun v σ' z => by
    obtain ⟨i, rfl, hi, k⟩ := z
    exact ⟨i, _, .int ns[i], rfl, by omega, by omega, .old hG, by rw [List.length_map]; omega, by rw [List.getElem?_map]; simp [hi], k⟩) fun _ _ z => z))
end
local macro_rules | `(tactic| walk_at "ex") => `(tactic| (first
  | (with_reducible refine' ev_sliceN ?_)
  | ((with_reducible refine' ev_script ?hn ?hv ?hG ?hz ?_); (case hG => assumption); (case hn => kernel_rfl); (case hv => (intro _ k; walk_at "ex"; exact k)); (case hz => omega))))
structure RowsG (σ : MHeap) (rd : Addr) (F : Fo) (g : Int → Bool) (ra : Int → Addr) : Prop where
  d : σ.D rd = some ((0 :: F.ids).map fun x => (x, MV.ref (ra x)))
  r : ∀ x, F.has x → σ.L (ra x) = some [if x = 0 then .none else .int (F.par x), .bool (g x), .int (F.wt x)]
  inj : ∀ x y, F.has x → F.has y → ra x = ra y → x = y
  ne : ∀ x, F.has x → ra x ≠ rd
structure Wd (σ : MHeap) (t : Addr) (p : PT) (T : Tree) (rd kd : Addr) (F : Fo) (g : Int → Bool) (ra : Int → Addr) : Prop where
  O : PtOk σ t p T
  B : Bd F p T
  R : RowsG σ rd F g ra
  K : σ.L kd = some (nm (0 :: F.ids))
  nk : rd ≠ kd ∧ ∀ x, F.has x → ra x ≠ kd
  nf : ∀ a, (a = rd ∨ a = kd ∨ ∃ x, F.has x ∧ a = ra x) → ¬ FootP t p T a
section
variable {σ : MHeap} {t : Addr} {p : PT} {T : Tree} {rd kd : Addr} {F : Fo} {g : Int → Bool} {ra : Int → Addr}
theorem Wd.mine (w : Wd σ t p T rd kd F g ra) {a : Addr} (h : a = rd ∨ a = kd ∨ ∃ x, F.has x ∧ a = ra x) : σ.Dom a := by
  rcases h with rfl | rfl | ⟨x, hx, rfl⟩
  · exact domD w.R.d
  · exact domL w.K
  · exact domL (w.R.r x hx)
theorem Wd.fresh {σ' : MHeap} {a : Addr} (w : Wd σ t p T rd kd F g ra) (s : SameOff a σ σ') (h : ¬ σ.Dom a) : Wd σ' t p T rd kd F g ra := by
  have ne : ∀ {b}, (b = rd ∨ b = kd ∨ ∃ x, F.has x ∧ b = ra x) → b ≠ a := fun hb e => h (e ▸ w.mine hb)
  exact ⟨w.O.fresh s fun f => h (w.O.dom f), w.B, ⟨(s rd (ne (.inl rfl))).2.2.1.trans w.R.d, fun x hx => (s _ (ne (.inr (.inr ⟨x, hx, rfl⟩)))).2.1.trans (w.R.r x hx), w.R.inj, w.R.ne⟩, (s kd (ne (.inr (.inl rfl)))).2.1.trans w.K, w.nk, w.nf⟩
end
theorem putK_new {l : List Int} {f : Int → MV} {x : Int} {v : MV} (h : x ∉ l) : putK (l.map fun z => (z, f z)) x v = (l.map fun z => (z, f z)) ++ [(x, v)] := by
  have : (l.map fun z => (z, f z)).any (fun p => decide (p.1 = x)) = false := by
    rw [List.any_eq_false]
    intro p hp
    obtain ⟨z, hz, rfl⟩ := List.mem_map.mp hp
    simpa using fun e : z = x => h (e ▸ hz)
  unfold putK
  rw [this]; rfl
theorem PtOk.alike {σ σ' : MHeap} {t : Addr} {p : PT} {T : Tree} (O : PtOk σ t p T) (h : ∀ a, FootP t p T a → Agree σ σ' a) : PtOk σ' t p T :=
  ⟨O.rep.agree fun b f => h b (.inl f), O.at_.agree (h t (.inr (.inl rfl))) (h _ (.inr (.inr (.inl rfl)))) (h _ (.inr (.inr (.inr rfl)))), O.nt, O.nd, O.ns⟩
theorem bv_ins3 {C : Cx} (hC : Of C) {a b c d : MV} : BindsV C (d_PriorityTree_insert_stream C) [a, b, d, c] [] [("self", a), ("stream_id", b), ("depends_on", d), ("weight", c), ("exclusive", .bool false)] := fun vals kw h r k => by
  obtain ⟨v, r1, rfl, hv, r1'⟩ := r
  obtain ⟨u, z, w, rfl, hu, hz, hw⟩ := VRs.three r1'
  obtain rfl := KVs.no k
  exact ⟨[("self", v), ("stream_id", u), ("depends_on", z), ("weight", w), ("exclusive", .bool false)], fun s hs => kp_binds hs (fun S => by unfold Of at hC; rw [hC]; kernel_rfl), v, _, rfl, hv, u, _, rfl, hu, z, _, rfl, hz, w, _, rfl, hw, _, [], rfl, VR.ofBool, rfl⟩
noncomputable def upd {α : Type} (f : Int → α) (x : Int) (v : α) : Int → α := fun z => if z = x then v else f z
section
variable {σ σ5 : MHeap} {t : Addr} {p p' : PT} {T T' : Tree} {rd kd : Addr} {F : Fo} {g : Int → Bool} {ra : Int → Addr}
theorem Wd.more (w : Wd σ t p T rd kd F g ra) {x pr wt : Int} {a a1 : Addr} {fl : Bool} (hx : x ∉ 0 :: F.ids) (ht : p' = { p with tab := p'.tab }) (O5 : PtOk σ5 t p' T') (B5 : Bd (F.add x pr wt a) p' T') (F5 : OffP (FootP t p T) σ σ5) (new : ∀ a, Foot T' a → Foot T a ∨ ¬ σ.Dom a) (ha1 : ¬ σ5.Dom a1) :
    Wd (((σ5.setL a1 [.int pr, .bool fl, .int wt]).setD rd (putK ((0 :: F.ids).map fun z => (z, MV.ref (ra z))) x (.ref a1))).setL kd (nm (0 :: F.ids) ++ [.int x])) t p' T' rd kd (F.add x pr wt a) (upd g x fl) (upd ra x a1) ∧
      σ5.D rd = some ((0 :: F.ids).map fun z => (z, MV.ref (ra z))) ∧ σ5.L kd = some (nm (0 :: F.ids)) := by
  have x0 : x ≠ 0 := fun e => hx (by rw [e]; exact .head _)
  have hxn : ∀ {z}, F.has z → z ≠ x := fun h e => hx (Fo.has_iff.mp (e ▸ h))
  have ag : ∀ {b}, (b = rd ∨ b = kd ∨ ∃ x, F.has x ∧ b = ra x) → Agree σ σ5 b := fun hb => F5 _ (w.mine hb) (w.nf _ hb)
  have nf5 : ∀ {b}, (b = rd ∨ b = kd ∨ ∃ x, F.has x ∧ b = ra x) → ¬ FootP t p' T' b := fun {b} hb f => by
    have d := w.mine hb
    have nf := w.nf b hb
    rw [ht] at f
    rcases f with f | f | f | f
    · rcases new b f with y | y
      · exact nf (.inl y)
      · exact y d
    · exact nf (.inr (.inl f))
    · exact nf (.inr (.inr (.inl f)))
    · exact nf (.inr (.inr (.inr f)))
  have D5 : σ5.D rd = some ((0 :: F.ids).map fun z => (z, MV.ref (ra z))) := (ag (.inl rfl)).2.2.1.trans w.R.d
  have K5 : σ5.L kd = some (nm (0 :: F.ids)) := (ag (.inr (.inl rfl))).2.1.trans w.K
  have R5 : ∀ z, F.has z → σ5.L (ra z) = _ := fun z hz => (ag (.inr (.inr ⟨z, hz, rfl⟩))).2.1.trans (w.R.r z hz)
  have n1 : ¬ FootP t p' T' a1 := fun f => ha1 (O5.dom f)
  have ra1 : ∀ {z}, F.has z → ra z ≠ a1 := fun hz e => ha1 (e ▸ domL (R5 _ hz))
  have rd1 : rd ≠ a1 := fun e => ha1 (e ▸ domD D5)
  have kd1 : kd ≠ a1 := fun e => ha1 (e ▸ domL K5)
  refine ⟨⟨?_, B5, ⟨?_, fun z hz => ?_, fun z y hz hy e => ?_, fun z hz => ?_⟩, ?_, ⟨w.nk.1, fun z hz => ?_⟩, fun b hb => ?_⟩, D5, K5⟩
  · exact ((O5.fresh SameOff.setL n1).fresh SameOff.setD (nf5 (.inl rfl))).fresh SameOff.setL (nf5 (.inr (.inl rfl)))
  · refine (up_self _ _ _).trans ?_
    rw [putK_new (f := fun z => .ref (ra z)) hx]
    show some _ = some ((0 :: (F.ids ++ [x])).map _)
    rw [← List.cons_append, List.map_append]
    congr 2
    · exact List.map_congr_left fun z hz => by unfold upd; rw [if_neg (hxn (Fo.has_iff.mpr hz))]
    · unfold upd; simp
  · unfold upd
    by_cases e : z = x
    · subst e
      rw [if_pos rfl, if_pos rfl, if_neg x0]
      refine (up_ne _ _ (Ne.symm kd1)).trans ((up_self σ5.L a1 _).trans ?_)
      show _ = some [MV.int (if z = z then pr else F.par z), MV.bool fl, MV.int (if z = z then wt else F.wt z)]
      rw [if_pos rfl, if_pos rfl]
    · have hz' : F.has z := (Fo.add_has.mp hz).elim id fun q => (e q).elim
      rw [if_neg e, if_neg e]
      refine (up_ne _ _ (w.nk.2 z hz')).trans ((up_ne σ5.L _ (ra1 hz')).trans ((R5 z hz').trans ?_))
      show _ = some [if z = 0 then MV.none else MV.int (if z = x then pr else F.par z), MV.bool (g z), MV.int (if z = x then wt else F.wt z)]
      rw [if_neg e, if_neg e]
  · unfold upd at e
    rcases Fo.add_has.mp hz with h1 | h1 <;> rcases Fo.add_has.mp hy with h2 | h2
    · rw [if_neg (hxn h1), if_neg (hxn h2)] at e
      exact w.R.inj z y h1 h2 e
    · rw [if_neg (hxn h1), if_pos h2] at e
      exact (ra1 h1 e).elim
    · rw [if_pos h1, if_neg (hxn h2)] at e
      exact (ra1 h2 e.symm).elim
    · rw [h1, h2]
  · unfold upd
    rcases Fo.add_has.mp hz with h1 | h1
    · rw [if_neg (hxn h1)]; exact w.R.ne z h1
    · rw [if_pos h1]; exact Ne.symm rd1
  · show MHeap.up _ kd _ kd = some (nm (0 :: (F.ids ++ [x])))
    rw [up_self]
    unfold nm; simp
  · unfold upd
    rcases Fo.add_has.mp hz with h1 | h1
    · rw [if_neg (hxn h1)]; exact w.nk.2 z h1
    · rw [if_pos h1]; exact Ne.symm kd1
  · rcases hb with rfl | rfl | ⟨z, hz, rfl⟩
    · exact nf5 (.inl rfl)
    · exact nf5 (.inr (.inl rfl))
    · unfold upd
      rcases Fo.add_has.mp hz with h1 | h1
      · rw [if_neg (hxn h1)]; exact nf5 (.inr (.inr ⟨z, h1, rfl⟩))
      · rw [if_pos h1]; exact n1
end
section
variable {C : Cx} {A : Around}
noncomputable abbrev topC (C : Cx) (A : Around) (L : Addr) : Fx := ⟨C, A.deeper (callEnvC (d_law C) L a_law), [callEnvC (d_law C) L a_law], callEnvC (d_law C) L a_law⟩
noncomputable abbrev baseL (kd rd t : Addr) (n : Int) (b : Addr) : Loc := [("known", .ref kd), ("rows", .ref rd), ("tree", .ref t), ("first", .int n), ("script", .raw (.ref b))]
noncomputable abbrev lawFin : FlowM → Loc → MHeap → Prop := fun f _ σ' => retOf f = .bool true
noncomputable abbrev lawErr : Value → Loc → MHeap → Prop := fun _ _ _ => False
end
local macro_rules | `(tactic| walk_at "ex") => `(tactic| (first
  | (with_reducible refine' ev_sliceN ?_)
  | ((with_reducible refine' ev_script ?hn ?hv ?hG ?hz ?_); (case hG => assumption); (case hn => kernel_rfl); (case hv => (intro _ k; walk_at "ex"; exact k)); (case hz => omega))))
section
variable {C : Cx} {A : Around}
noncomputable def Ids (l : List Int) : Prop := ∀ x ∈ l, 2 ≤ x ∧ ∃ j : Nat, j < l.length ∧ x % 10 = (2 + (j : Int)) % 10
theorem Ids.new {l : List Int} (I : Ids l) (h : l.length ≤ 8) {k : Int} (hk : 0 ≤ k) : 2 + (l.length : Int) + 10 * k ∉ 0 :: l ∧ Ids (l ++ [2 + (l.length : Int) + 10 * k]) := by
  refine ⟨fun z => ?_, fun x hx => ?_⟩
  · rcases List.mem_cons.mp z with e | e
    · omega
    · obtain ⟨_, j, hj, q⟩ := I _ e
      omega
  · rw [List.length_append, List.length_singleton]
    rcases List.mem_append.mp hx with e | e
    · obtain ⟨a, j, hj, q⟩ := I x e
      exact ⟨a, j, by omega, q⟩
    · rw [List.mem_singleton] at e
      exact ⟨by omega, l.length, by omega, by omega⟩
theorem law_build (hC : Of C) (hh : A.handled = none) (hr0 : Room A 30) {b : Addr} {ns : List Int} (hs : GList C b ns) (hz : ns.length ≤ 63) (L : Addr) {kd rd t : Addr} {n : Int} (n0 : 0 ≤ n) {σ4 : MHeap} {p : PT} {T : Tree} {F : Fo} {g : Int → Bool} {ra : Int → Addr} (W0 : Wd σ4 t p T rd kd F g ra) (e0 : F.ids = []) (on0 : ∀ x, F.on x = true) (g0 : g 0 = false)
    (h : ∀ σ p T F g ra, Wd σ t p T rd kd F g ra → (∀ x, F.on x = true) → g 0 = false → RunS (topC C A L) (baseL kd rd t n b) σ ((fnBody (stTop 19)).drop 5) lawFin lawErr) :
    RunS (topC C A L) (baseL kd rd t n b) σ4 ((fnBody (stTop 19)).drop 4) lawFin lawErr := by
  have hr : Room (topC C A L).A 29 := hr0.deeper (callEnvC (d_law C) L a_law)
  have hC' : Of (topC C A L).C := hC
  conv in List.drop _ _ => whnf
  walk_at "st"
  refine r1_For_enum (fun lb i m' σ' => baseL kd rd t n b <:+ m' ∧ i ≤ 9 ∧ ∃ p T F g ra, Wd σ' t p T rd kd F g ra ∧ (∀ x, F.on x = true) ∧ g 0 = false ∧ F.ids.length = i ∧ Ids F.ids ∧ σ'.L lb = some (nm (ns.take 9)) ∧ ¬ FootP t p T lb ∧ lb ≠ kd) 9 hh (fun _ => rfl) rfl (fun _ _ => trivial) ?_
  walk_at "nm"
  refine ⟨rfl, ?_⟩
  walk_at "go"
  refine ⟨_, none, some 9, .old hs, by simp; omega, rfl, rfl, fun lb hlb => ?_⟩
  have eL : pickL (ns.map .int) none (some 9) = nm (ns.take 9) := pick_front ns 9
  rw [eL]
  have lt9 : (ns.take 9).length ≤ 9 := by rw [List.length_take]; omega
  have lbk : lb ≠ kd := fun e => hlb (by rw [e]; exact domL W0.K)
  refine ⟨lb, rfl, ⟨List.suffix_refl _, Nat.zero_le _, p, T, F, g, ra, W0.fresh SameOff.setL hlb, on0, g0, by rw [e0]; rfl, by rw [e0]; exact fun _ z => (by cases z), up_self _ _ _, fun f => hlb (W0.O.dom f), lbk⟩, fun i m' σ' q => q.2.1, ?_⟩
  rintro i m' σ' ⟨hb, hi, p, T, F, g, ra, W1, on1, g1, ei, I1, hl1, nf1, _⟩
  refine ⟨nm (ns.take 9), hl1, fun v hv => ?_, fun hv => ?_⟩
  · have hi' : i < (ns.take 9).length := by
      obtain ⟨z, _⟩ := List.getElem?_eq_some_iff.mp hv
      rwa [lenN] at z
    obtain ⟨k, rfl⟩ : ∃ k : Int, v = .int k := ⟨_, (Option.some.inj ((nm_get hi').symm.trans hv)).symm⟩
    refine AsT.forget hb ?_
    refine as_tupleA rfl rfl ?_
    walk_at "go"
    refine cv_abs ?_
    have nn : 0 ≤ (if k < 0 then -k else k) := by split <;> omega
    generalize (if k < 0 then -k else k) = N at nn
    walk_at "go"
    refine o_fdiv (X := topC C A L) (by decide) hr ?_
    walk_at "go"
    refine o_mod (by decide) ?_
    refine o_mulL (by decide) (by decide) ?_
    walk_at "op"
    walk_at "bind"
    obtain ⟨xnew, I2⟩ := I1.new (k := N / 3 % 5) (by omega) (by omega)
    rw [show (2 : Int) + ↑i + 10 * (N / 3 % 5) = 2 + (F.ids.length : Int) + 10 * (N / 3 % 5) from by rw [ei]]
    have xlow : 2 ≤ 2 + (F.ids.length : Int) + 10 * (N / 3 % 5) := by omega
    generalize 2 + (F.ids.length : Int) + 10 * (N / 3 % 5) = x at xnew I2 xlow
    walk_at "st"
    walk_at "st"
    refine RunL.mono (K := fun f m' σ'' => f = FlowM.next ∧ ∃ w : Int, (1 ≤ w ∧ w ≤ 256) ∧ m' = ([("weight", .int w), ("x", .int x), ("n", .int N), ("number", .int k), ("i", .int (i : Int)), ("known", .ref kd), ("rows", .ref rd), ("tree", .ref t), ("first", .int n), ("script", .raw (.ref b))] : Loc) ∧ σ'' = σ') (KE := fun _ _ _ => False) ?_ ?_ fun _ _ _ z => z
    · walk_at "go"
      refine o_mod (by decide) ?_
      walk_at "go"
      refine if_dec (fun _ => ?_) (fun _ => ?_)
      · walk_at "go"
        refine o_fdiv (X := topC C A L) (by decide) hr ?_
        walk_at "go"
        refine o_mod (by decide) ?_
        have b6 : 0 ≤ n / 2 % 6 ∧ n / 2 % 6 ≤ 5 := by omega
        generalize n / 2 % 6 = e at b6
        refine o_pow2 b6.1 (by omega) ?_
        walk_at "go"
        refine o_fdiv (X := topC C A L) (by decide) hr ?_
        walk_at "go"
        refine o_mod (by decide) ?_
        walk_at "op"
        have b7 : 1 ≤ 1 + (N / 45 + N) % 7 ∧ 1 + (N / 45 + N) % 7 ≤ 7 := by omega
        generalize 1 + (N / 45 + N) % 7 = q at b7
        refine o_mulR (by omega) (by omega) ?_
        walk_at "go"
        refine ⟨rfl, _, ?_, rfl, rfl⟩
        have : e = 0 ∨ e = 1 ∨ e = 2 ∨ e = 3 ∨ e = 4 ∨ e = 5 := by omega
        rcases this with rfl | rfl | rfl | rfl | rfl | rfl <;> (simp; omega)
      · walk_at "go"
        refine o_fdiv (X := topC C A L) (by decide) hr ?_
        walk_at "go"
        refine o_mod (by decide) ?_
        walk_at "go"
        exact ⟨rfl, _, ⟨by omega, by omega⟩, rfl, rfl⟩
    rintro f m' σ'' ⟨rfl, w, hw, rfl, rfl⟩
    walk_at "go"
    have lK : (nm (0 :: F.ids)).length = i + 1 := by rw [lenN, List.length_cons, ei]
    refine cv_len_list W1.K (by omega) ?_
    rw [lK]
    refine o_mod (by omega) ?_
    have m1 := Int.emod_nonneg N (show ((i + 1 : Nat) : Int) ≠ 0 by omega)
    have m2 := Int.emod_lt_of_pos N (show (0 : Int) < ((i + 1 : Nat) : Int) by omega)
    obtain ⟨j, hj⟩ : ∃ j : Nat, N % ((i + 1 : Nat) : Int) = j := ⟨(N % ((i + 1 : Nat) : Int)).toNat, by omega⟩
    have hj2 : j < (0 :: F.ids).length := by rw [List.length_cons, ei]; omega
    rw [hj]
    refine sg_list W1.K (by omega) (by omega) (by rw [Int.toNat_natCast]; exact nm_get hj2) ?_
    have hp : F.has (0 :: F.ids)[j] := Fo.has_iff.mpr (List.getElem_mem hj2)
    generalize (0 :: F.ids)[j] = pr at hp
    obtain ⟨Q, I, full⟩ := W1.B.iq
    obtain ⟨ny, Ny⟩ := I.node pr hp
    have l0 := W1.B.l0 _ _ Ny.at_
    have hq : QIn T ny := ⟨by have := I.len W1.B.ok hp; rw [Ny.q, List.length_map]; omega, fun e he => by
      rw [Ny.q] at he
      obtain ⟨c, hc, rfl⟩ := List.mem_map.mp he
      obtain ⟨k, K⟩ := I.node c (.inr (Fo.mem_kids.mp (I.sub pr hp c hc)).1)
      exact ⟨k, K.at_⟩⟩
    have tl : p.tab.length = i + 1 := by rw [W1.B.tab, List.length_map, List.length_cons, ei]
    walk_at "go"
    refine gm_T (X := topC C A L) hC' W1.O.at_ (facts_T hC').2.2.1 (by kernel_rfl) ?_
    walk_at "go"
    refine sp_ins (X := topC C A L) (r := 23) hC' hr (bv_ins3 hC') W1.O (W1.B.new xnew) (by omega) (by rw [W1.B.mx]; omega) hw.1 hw.2 (e := pr) (.inr ⟨pr, rfl, ?_⟩) (W1.B.at_ hp) Ny.at_ hq (by omega) fun σ5 a nx ha hnx O5 F5 new => ?_
    · by_cases e : pr = 0
      · exact .inl ⟨e, e⟩
      · refine .inr ⟨e, fun q => xnew ?_, rfl⟩
        rw [← q]; exact Fo.has_iff.mp hp
    have B5 := W1.B.add xnew hp hw (by omega) ha Ny.at_ hnx
    have hl5 : σ5.L lb = some (nm (ns.take 9)) := (F5 lb (domL hl1) nf1).2.1.trans hl1
    have nf5 : ¬ FootP t { p with tab := p.tab ++ [(x, a)] } (addT (upT T a nx) (F.ad pr) a ny nx) lb := fun f => by
      rcases f with f | f | f | f
      · rcases new lb f with y | y
        · exact nf1 (.inl y)
        · exact y (domL hl1)
      · exact nf1 (.inr (.inl f))
      · exact nf1 (.inr (.inr (.inl f)))
      · exact nf1 (.inr (.inr (.inr f)))
    refine ⟨noref_none, ?_⟩
    walk_at "go"
    refine o_mod (by decide) ?_
    walk_at "go"
    refine ⟨by simp, fun a1 ha1 => ?_⟩
    obtain ⟨W2, D5, K5⟩ := W1.more (p' := { p with tab := p.tab ++ [(x, a)] }) (fl := decide (N % 5 = 4)) xnew rfl O5 B5 F5 new ha1
    walk_at "go"
    refine si_dict (X := topC C A L) (show (σ5.setL a1 _).D rd = some _ from D5) (by rw [List.length_map, List.length_cons]; omega) ?_
    have kd1 : kd ≠ a1 := fun e => ha1 (e ▸ domL K5)
    have lb1 : lb ≠ a1 := fun e => ha1 (e ▸ domL hl5)
    walk_at "go"
    refine gm_list (X := topC C A L) (l := nm (0 :: F.ids)) ((up_ne σ5.L _ kd1).trans K5) PySem.F.slot_list_append PySem.F.type_list_append ?_
    walk_at "go"
    refine cv_append (X := topC C A L) (l := nm (0 :: F.ids)) ((up_ne σ5.L _ kd1).trans K5) (by omega) ?_
    refine ⟨noref_none, ?_⟩
    walk_at "go"
    refine ⟨((((List.suffix_cons _ _).trans (List.suffix_cons _ _)).trans (List.suffix_cons _ _)).trans (List.suffix_cons _ _)).trans ((List.suffix_cons _ _).trans (List.suffix_cons _ _)), by omega, _, _, _, _, _, W2, fun z => ?_, ?_, ?_, I2, ?_, nf5, by assumption⟩
    · show (if z = x then true else F.on z) = true
      split <;> first | rfl | exact on1 z
    · unfold upd; rw [if_neg (by omega)]; exact g1
    · show (F.ids ++ [x]).length = _
      rw [List.length_append, ei]; rfl
    · exact (up_ne _ _ (by assumption)).trans ((up_ne σ5.L _ lb1).trans hl5)
  · refine RunL.forget hb ?_
    walk_at "st"
    walk_at "st"
    exact h _ _ _ _ _ _ W1 on1 g1
end
local macro_rules | `(tactic| walk_at "ex") => `(tactic| (first
  | (with_reducible refine' ev_sliceN ?_)))
theorem pick_back (l : List Int) : pickL (nm l) (some (1 : Int)) none = nm (l.drop 1) := by
  have c1 : clipAt (nm l).length (1 : Int) = min 1 l.length := by unfold clipAt; rw [lenN, if_neg (by omega)]; omega
  unfold pickL
  simp only [Option.elim]
  rw [c1]
  unfold nm
  rw [List.length_map, ← List.map_drop, ← List.map_take]
  congr 1
  rw [List.take_of_length_le (by rw [List.length_drop]; omega)]
  cases l with
  | nil => rfl
  | cons a r => simp
theorem Fo.kids_all {F : Fo} (o : FoOk F) {x : Int} : ((0 :: F.ids).filter fun y => decide (y ≠ 0 ∧ F.par y = x)) = F.kids x := by
  unfold Fo.kids
  rw [List.filter_cons_of_neg (by simp)]
  refine List.filter_congr fun y hy => ?_
  simp [o.ne0 hy]
section
variable {σ : MHeap} {t : Addr} {p : PT} {T : Tree} {rd kd : Addr} {F : Fo} {g : Int → Bool} {ra : Int → Addr}
theorem Wd.mark (w : Wd σ t p T rd kd F g ra) {x : Int} (hx : F.has x) (b : Bool) : Wd (σ.setL (ra x) [if x = 0 then .none else .int (F.par x), .bool b, .int (F.wt x)]) t p T rd kd F (upd g x b) ra := by
  refine ⟨w.O.fresh SameOff.setL (w.nf _ (.inr (.inr ⟨x, hx, rfl⟩))), w.B, ⟨w.R.d, fun z hz => ?_, w.R.inj, w.R.ne⟩, (up_ne _ _ (Ne.symm (w.nk.2 x hx))).trans w.K, w.nk, w.nf⟩
  unfold upd
  by_cases e : z = x
  · subst e; rw [if_pos rfl]; exact up_self _ _ _
  · rw [if_neg e]; exact (up_ne _ _ fun q => e (w.R.inj z x hz hx q)).trans (w.R.r z hz)
theorem Wd.block (w : Wd σ t p T rd kd F g ra) {x : Int} (hx : x ∈ F.ids) {σ' : MHeap} {n : Node} (hn : T (F.ad x) = some n) (O : PtOk σ' t p (actT T (F.ad x) n false)) (f : Off T σ σ') : Wd σ' t p (actT T (F.ad x) n false) rd kd (F.off x) g ra := by
  have ag : ∀ {b}, (b = rd ∨ b = kd ∨ ∃ x, F.has x ∧ b = ra x) → Agree σ σ' b := fun hb => f _ (w.mine hb) fun z => w.nf _ hb (.inl z)
  have lk : Like T (actT T (F.ad x) n false) := Like.up hn ⟨rfl, rfl, rfl⟩ rfl
  refine ⟨O, w.B.block hx hn, ⟨(ag (.inl rfl)).2.2.1.trans w.R.d, fun z hz => (ag (.inr (.inr ⟨z, hz, rfl⟩))).2.1.trans (w.R.r z hz), w.R.inj, w.R.ne⟩, (ag (.inr (.inl rfl))).2.1.trans w.K, w.nk, fun a ha z => ?_⟩
  rcases z with z | z
  · exact w.nf a ha (.inl ((lk.foot a).mp z))
  · exact w.nf a ha (.inr z)
end
section
variable {C : Cx} {A : Around}
theorem law_block (hC : Of C) (hh : A.handled = none) (hr0 : Room A 30) {b : Addr} (L : Addr) {kd rd t : Addr} {n : Int} {σ4 : MHeap} {p : PT} {T : Tree} {F : Fo} {g : Int → Bool} {ra : Int → Addr} (W0 : Wd σ4 t p T rd kd F g ra) (on0 : ∀ x, F.on x = true) (g0 : g 0 = false)
    (h : ∀ m σ T F g ra, baseL kd rd t n b <:+ m → Wd σ t p T rd kd F g ra → (∀ x, F.has x → g x = F.act x) → RunS (topC C A L) m σ ((fnBody (stTop 19)).drop 6) lawFin lawErr) :
    RunS (topC C A L) (baseL kd rd t n b) σ4 ((fnBody (stTop 19)).drop 5) lawFin lawErr := by
  have hr : Room (topC C A L).A 29 := hr0.deeper (callEnvC (d_law C) L a_law)
  have hC' : Of (topC C A L).C := hC
  conv in List.drop _ _ => whnf
  walk_at "st"
  refine r1_For_listX (fun lb i m' σ' => baseL kd rd t n b <:+ m' ∧ i ≤ F.ids.length ∧ ∃ T F' g, Wd σ' t p T rd kd F' g ra ∧ F'.ids = F.ids ∧ g 0 = false ∧ (∀ x ∈ F.ids.take i, g x = F'.on x) ∧ (∀ x ∈ F.ids.drop i, F'.on x = true) ∧ σ'.L lb = some (nm F.ids) ∧ ¬ FootP t p T lb ∧ ∀ x, F'.has x → lb ≠ ra x) F.ids.length (fun _ => rfl) ?_
  walk_at "go"
  refine ⟨_, some 1, none, .own W0.K, by rw [lenN, List.length_cons]; have := W0.B.ok.len; omega, rfl, rfl, fun lb hlb => ?_⟩
  rw [show pickL (nm (0 :: F.ids)) (some (1 : Int)) none = nm F.ids from pick_back _]
  have lbr : ∀ x, F.has x → lb ≠ ra x := fun x hx e => hlb (by rw [e]; exact domL (W0.R.r x hx))
  refine ⟨lb, rfl, ⟨List.suffix_refl _, Nat.zero_le _, T, F, g, W0.fresh SameOff.setL hlb, rfl, g0, fun _ z => (by cases z), fun x _ => on0 x, up_self _ _ _, fun f => hlb (W0.O.dom f), lbr⟩, fun i m' σ' q => q.2.1, ?_⟩
  rintro i m' σ' ⟨hb, hi, T, F', g, W1, eI, g1, t1, d1, hl1, nf1, nr1⟩
  refine ⟨nm F.ids, hl1, fun v hv => ?_, fun hv => ?_⟩
  · have hi' : i < F.ids.length := by
      obtain ⟨z, _⟩ := List.getElem?_eq_some_iff.mp hv
      rwa [lenN] at z
    obtain rfl : v = .int F.ids[i] := (Option.some.inj ((nm_get hi').symm.trans hv)).symm
    have hx : F.ids[i] ∈ F.ids := List.getElem_mem hi'
    have nd := W1.B.ok.nd
    rw [eI] at nd
    obtain ⟨x, ex⟩ : ∃ x, F.ids[i] = x := ⟨_, rfl⟩
    rw [ex] at hx ⊢
    have hx' : x ∈ F'.ids := by rw [eI]; exact hx
    have hxh : F'.has x := .inr hx'
    have lF := W1.B.ok.len
    have ndI : F.ids.Nodup := (List.nodup_cons.mp nd).2
    have ett : F.ids.take (i + 1) = F.ids.take i ++ [x] := by rw [List.take_succ_eq_append_getElem hi', ex]
    have etd : F.ids.drop i = x :: F.ids.drop (i + 1) := by rw [List.drop_eq_getElem_cons hi', ex]
    have xt : x ∉ F.ids.take i := fun m => by
      have := List.take_append_drop i F.ids
      rw [etd] at this
      rw [← this, List.nodup_append] at ndI
      exact ndI.2.2 x m x (.head _) rfl
    have xd : x ∉ F.ids.drop (i + 1) := fun m => by
      have := List.take_append_drop i F.ids
      rw [etd] at this
      rw [← this, List.nodup_append] at ndI
      exact (List.nodup_cons.mp ndI.2.1).1 m
    refine AsT.forget hb ?_
    walk_at "ex"
    walk_at "bind"
    walk_at "st"
    refine RunL.mono (K := fun f m' σ' => f = FlowM.next ∧ m' = ([("x", .int x), ("known", .ref kd), ("rows", .ref rd), ("tree", .ref t), ("first", .int n), ("script", .raw (.ref b))] : Loc) ∧ ∃ g, Wd σ' t p T rd kd F' g ra ∧ g 0 = false ∧ (∀ z ∈ F.ids.take i, g z = F'.on z) ∧ σ'.L lb = some (nm F.ids)) (KE := fun _ _ _ => False) ?_ ?_ fun _ _ _ z => z.elim
    · walk_at "go"
      refine ev_comp (CompOk.two (y := "x") (z := "rows") (c := L + 1 + 1) (d := L + 1) (v := .int x) (u := .ref rd) (by kernel_rfl) rfl (by decide) (by kernel_rfl) (by decide) (by kernel_rfl) (by kernel_rfl) (Nat.succ_ne_self _) (by simp) (by simp) (by decide) (by decide) (by kernel_rfl) (by kernel_rfl) (by kernel_rfl) (by kernel_rfl) (by kernel_rfl)) (fun _ => by kernel_rfl) (F'.ids.length + 1) (by omega) ?_
      walk_at "go"
      have lC : (0 :: F'.ids).length = F'.ids.length + 1 := rfl
      refine ⟨fun I i h => h.IsListIter I kd i, fun i acc σ2 => σ2 = σ' ∧ i ≤ F'.ids.length + 1 ∧ acc = nm (((0 :: F'.ids).take i).filter fun y => decide (y ≠ 0 ∧ F'.par y = x)), starts_list W1.K, fun I => hst_list, fun I => self_list, ⟨rfl, Nat.zero_le _, by simp [nm]⟩, ?_, ?_⟩
      · rintro j acc σ2 ⟨rfl, hj, rfl⟩
        refine ⟨hj, ?_⟩
        have := List.length_filter_le (fun y => decide (y ≠ 0 ∧ F'.par y = x)) ((0 :: F'.ids).take j)
        rw [List.length_take] at this
        rw [lenN]
        omega
      · rintro j acc σ2 ⟨hσ, hj, rfl⟩
        obtain rfl : σ' = σ2 := hσ.symm
        by_cases e : j < (0 :: F'.ids).length
        · obtain ⟨y, ey⟩ : ∃ y, (0 :: F'.ids)[j] = y := ⟨_, rfl⟩
          have hy : F'.has y := Fo.has_iff.mpr (by rw [← ey]; exact List.getElem_mem e)
          refine .inl ⟨.int (0 :: F'.ids)[j], fun C I => item_list W1.K (nm_get e), fun C => ei_one ?_⟩
          rw [ey]
          walk_at "go"
          refine sg_dict W1.R.d (atK_map (f := fun x => .ref (ra x)) (Fo.has_iff.mp hy)) ?_
          walk_at "go"
          refine sg_list (W1.R.r y hy) (by decide) (by decide) rfl ?_
          walk_at "go"
          by_cases y0 : y = 0
          · rw [if_pos y0]
            refine o_eqNI ?_
            walk_at "go"
            refine ⟨rfl, e, ?_⟩
            rw [List.take_succ_eq_append_getElem e, List.filter_append, ey]
            simp [nm, y0]
          · rw [if_neg y0]
            walk_at "go"
            by_cases q : F'.par y = x
            · rw [if_pos (by simpa using q)]
              walk_at "go"
              refine ⟨rfl, e, ?_⟩
              rw [List.take_succ_eq_append_getElem e, List.filter_append, ey]
              simp [nm, y0, q]
            · rw [if_neg (by simpa using q)]
              refine ⟨rfl, e, ?_⟩
              rw [List.take_succ_eq_append_getElem e, List.filter_append, ey]
              simp [nm, y0, q]
        · have ej : j = (0 :: F'.ids).length := by omega
          refine .inr ⟨fun C I => done_list hh W1.K (by rw [List.getElem?_eq_none]; rw [lenN]; omega), fun D hD => ?_⟩
          rw [ej, List.take_length, Fo.kids_all W1.B.ok]
          have W2 := W1.fresh (SameOff.setL (x := nm (F'.kids x))) hD
          have hl2 : (σ'.setL D (nm (F'.kids x))).L lb = some (nm F.ids) := (up_ne σ'.L _ fun e : lb = D => hD (e ▸ domL hl1)).trans hl1
          have hD2 : (σ'.setL D (nm (F'.kids x))).L D = some (nm (F'.kids x)) := up_self _ _ _
          generalize σ'.setL D (nm (F'.kids x)) = σ2 at W2 hl2 hD2 ⊢
          walk_at "go"
          refine ⟨by decide, fun E hE => ?_⟩
          have W3 := W2.fresh (SameOff.setL (x := [])) hE
          have hl3 : (σ2.setL E []).L lb = some (nm F.ids) := (up_ne σ2.L _ fun e : lb = E => hE (e ▸ domL hl2)).trans hl2
          refine o_eq_ints (X := topC C A L) hr (ns := F'.kids x) (ms := []) ((up_ne σ2.L _ fun e : D = E => hE (e ▸ domL hD2)).trans hD2) (up_self _ _ _) ?_
          generalize σ2.setL E [] = σ3 at W3 hl3 ⊢
          walk_at "go"
          refine if_dec (fun _ => ?_) (fun _ => ?_)
          · walk_at "go"
            refine sg_dict W3.R.d (atK_map (f := fun x => .ref (ra x)) (Fo.has_iff.mp hxh)) ?_
            walk_at "go"
            refine sg_list (W3.R.r x hxh) (by decide) (by decide) rfl ?_
            walk_at "go"
            refine o_not ?_
            walk_at "go"
            refine sg_dict W3.R.d (atK_map (f := fun x => .ref (ra x)) (Fo.has_iff.mp hxh)) ?_
            walk_at "go"
            refine si_list (X := topC C A L) (j := 1) (W3.R.r x hxh) (by simp) (by simp) ?_
            have W4 := W3.mark hxh (!g x)
            walk_at "go"
            refine ⟨rfl, rfl, _, W4, ?_, fun z hz => ?_, (up_ne σ3.L _ (nr1 x hxh)).trans hl3⟩
            · unfold upd; rw [if_neg (Ne.symm (W1.B.ok.ne0 hx'))]; exact g1
            · unfold upd
              rw [if_neg fun e : z = x => xt (e ▸ hz)]; exact t1 z hz
          · walk_at "go"
            exact ⟨rfl, rfl, g, W3, g1, t1, hl3⟩
    · rintro f m' σ' ⟨rfl, rfl, g2, W2, g20, t2, hl2⟩
      walk_at "go"
      refine sg_dict W2.R.d (atK_map (f := fun x => .ref (ra x)) (Fo.has_iff.mp hxh)) ?_
      walk_at "go"
      refine sg_list (W2.R.r x hxh) (by decide) (by decide) rfl ?_
      walk_at "go"
      refine if_bool (fun hg => ?_) (fun hg => ?_)
      · walk_at "go"
        refine ⟨List.suffix_cons _ _, hi', T, F', g2, W2, eI, g20, fun z hz => ?_, fun z hz => d1 z (by rw [etd]; exact .tail _ hz), hl2, nf1, nr1⟩
        rw [ett] at hz
        rcases List.mem_append.mp hz with q | q
        · exact t2 z q
        · rw [List.mem_singleton] at q; subst q
          rw [hg]; exact (d1 z (by rw [etd]; exact .head _)).symm
      · obtain ⟨Q, I, full⟩ := W2.B.iq
        obtain ⟨nx, Nx⟩ := I.node x hxh
        walk_at "go"
        refine gm_T (X := topC C A L) hC' W2.O.at_ (facts_T hC').2.2.2.1 (by kernel_rfl) ?_
        walk_at "go"
        refine sp_block (X := topC C A L) (r := 27) hC' hr W2.O (W1.B.ok.ne0 hx') (W2.B.at_ hxh) Nx.at_ fun σ5 O5 F5 => ?_
        have W5 := W2.block hx' Nx.at_ O5 F5
        have hl5 : σ5.L lb = some (nm F.ids) := (F5 lb (domL hl2) fun z => nf1 (.inl z)).2.1.trans hl2
        have lk : Like T (actT T (F'.ad x) nx false) := Like.up Nx.at_ ⟨rfl, rfl, rfl⟩ rfl
        refine ⟨noref_none, ?_⟩
        walk_at "go"
        refine ⟨List.suffix_cons _ _, hi', _, F'.off x, g2, W5, eI, g20, fun z hz => ?_, fun z hz => ?_, hl5, fun z => ?_, nr1⟩
        · rw [ett] at hz
          show g2 z = if z = x then false else F'.on z
          rcases List.mem_append.mp hz with q | q
          · rw [if_neg fun e : z = x => xt (e ▸ q)]; exact t2 z q
          · rw [List.mem_singleton] at q; subst q
            rw [if_pos rfl]; exact hg
        · show (if z = x then false else F'.on z) = true
          rw [if_neg fun e : z = x => xd (e ▸ hz)]
          exact d1 z (by rw [etd]; exact .tail _ hz)
        · rcases z with z | z
          · exact nf1 (.inl ((lk.foot _).mp z))
          · exact nf1 (.inr z)
  · have : i = F.ids.length := by
      rw [List.getElem?_eq_none_iff, lenN] at hv; omega
    subst this
    walk_at "st"
    walk_at "st"
    refine h _ _ _ _ _ _ hb W1 fun x hx => ?_
    rcases hx with rfl | hx
    · rw [g1]; rfl
    · unfold Fo.act
      rw [if_neg (W1.B.ok.ne0 hx)]
      exact t1 x (by rw [List.take_length, ← eI]; exact hx)
end
noncomputable def Wp (F : Fo) (l : List Int) (p : Int) : List (Int × Int) := (l.filter fun x => decide (x ≠ 0 ∧ F.par x = p)).map fun x => (x, F.wt x)
theorem keys_Wp {F : Fo} {l : List Int} {p : Int} : keysOf (Wp F l p) = l.filter fun x => decide (x ≠ 0 ∧ F.par x = p) := by
  unfold keysOf Wp
  rw [List.map_map]
  exact List.map_id _
theorem mem_Wp {F : Fo} {l : List Int} {p x : Int} : x ∈ keysOf (Wp F l p) ↔ x ∈ l ∧ x ≠ 0 ∧ F.par x = p := by
  rw [keys_Wp]; simp
theorem wAt_Wp {F : Fo} {l : List Int} {p x : Int} (h : x ∈ keysOf (Wp F l p)) : wAt (Wp F l p) x = F.wt x := by
  rw [keys_Wp] at h
  unfold Wp wAt
  generalize l.filter (fun x => decide (x ≠ 0 ∧ F.par x = p)) = k at h
  induction k with
  | nil => cases h
  | cons a r ih =>
    rw [List.map_cons, List.find?_cons]
    by_cases q : a = x
    · subst q; simp
    · have : x ∈ r := (List.mem_cons.mp h).elim (fun z => (q z.symm).elim) id
      simpa [q] using ih this
theorem nd_Wp {F : Fo} {l : List Int} {p : Int} (h : l.Nodup) : (keysOf (Wp F l p)).Nodup := by
  rw [keys_Wp]; exact h.sublist List.filter_sublist
theorem Wp_snoc {F : Fo} {l : List Int} {p x : Int} : Wp F (l ++ [x]) p = if x ≠ 0 ∧ F.par x = p then Wp F l p ++ [(x, F.wt x)] else Wp F l p := by
  unfold Wp
  rw [List.filter_append, List.map_append]
  by_cases e : x ≠ 0 ∧ F.par x = p <;> simp [e]
theorem setW_new {W : List (Int × Int)} {x v : Int} (h : x ∉ keysOf W) : setW W x v = W ++ [(x, v)] := by unfold setW; rw [if_neg h]
structure Sq (F : Fo) (l : List Int) (cnt : Int → Int) (sq : Int → List Int) (B : Nat) : Prop where
  gr : ∀ p, F.has p → GreedyI (Wp F l p) (sq p)
  ct : ∀ c ∈ F.ids, c ∈ l → cnL (sq (F.par c)) c = cnt c
  le : ∀ p, F.has p → (sq p).length ≤ B
theorem Sq.nil {F : Fo} {l : List Int} : Sq F l (fun _ => 0) (fun _ => []) 0 := ⟨fun _ _ => GreedyI.nil, fun _ _ _ => rfl, fun _ _ => Nat.le_refl _⟩
theorem Sq.eq {F : Fo} {l : List Int} {cnt cnt' : Int → Int} {sq : Int → List Int} {B B' : Nat} (S : Sq F l cnt sq B) (h : ∀ d, d ∈ l → cnt' d = cnt d) (hB : B ≤ B') : Sq F l cnt' sq B' := ⟨S.gr, fun c hc hl => (S.ct c hc hl).trans (h c hl).symm, fun p hp => Nat.le_trans (S.le p hp) hB⟩
theorem Sq.snoc {F : Fo} {l : List Int} {cnt cnt' : Int → Int} {sq : Int → List Int} {B : Nat} (S : Sq F l cnt sq B) (lh : ∀ x ∈ l, F.has x) {x : Int} (hx : x ∈ F.ids) (hl : x ∈ l) (x0 : x ≠ 0) (f : FirstI F (fun z => z ∈ l) cnt x) (h : ∀ d, d ∈ l → cnt' d = cnt d + if d = x then 1 else 0) : Sq F l cnt' (upd sq (F.par x) (sq (F.par x) ++ [x])) (B + 1) := by
  refine ⟨fun p hp => ?_, fun c hc hl' => ?_, fun p hp => ?_⟩
  · unfold upd
    by_cases e : p = F.par x
    · rw [if_pos e]
      subst e
      have mx : x ∈ keysOf (Wp F l (F.par x)) := mem_Wp.mpr ⟨hl, x0, rfl⟩
      refine (S.gr _ hp).snoc ⟨mx, fun o ho => ?_⟩
      obtain ⟨o1, o2, o3⟩ := mem_Wp.mp ho
      rw [wAt_Wp mx, wAt_Wp ho, S.ct x hx hl]
      have ho' : o ∈ F.ids := (lh o o1).elim (fun z => (o2 z).elim) id
      have := S.ct o ho' o1
      rw [o3] at this
      rw [this]
      exact f o (Fo.mem_kids.mpr ⟨ho', o3⟩) o1
    · rw [if_neg e]; exact S.gr p hp
  · unfold upd
    rw [h c hl']
    by_cases e : F.par c = F.par x
    · rw [if_pos e, cnL_snoc, ← e, S.ct c hc hl']
      congr 1
      by_cases q : x = c
      · rw [if_pos q, if_pos q.symm]
      · rw [if_neg q, if_neg (Ne.symm q)]
    · rw [if_neg e, S.ct c hc hl', if_neg fun q => e (by rw [q]), Int.add_zero]
  · unfold upd
    split
    · rename_i e
      rw [List.length_append]
      have := S.le p hp
      rw [e] at this
      exact Nat.succ_le_succ this
    · have := S.le p hp; omega
structure Sv (σ : MHeap) (sv : Addr) (l : List Int) (sa : Int → Addr) (sq : Int → List Int) : Prop where
  d : σ.D sv = some (l.map fun x => (x, MV.ref (sa x)))
  r : ∀ x ∈ l, σ.L (sa x) = some (nm (sq x))
theorem Sv.fr {σ σ' : MHeap} {sv : Addr} {l : List Int} {sa : Int → Addr} {sq : Int → List Int} (S : Sv σ sv l sa sq) (f : Fr0 σ σ') : Sv σ' sv l sa sq := ⟨(f sv (domD S.d)).2.2.1.trans S.d, fun x hx => (f _ (domL (S.r x hx))).2.1.trans (S.r x hx)⟩
section
variable {C : Cx} {A : Around}
noncomputable abbrev base2 (sv la kd rd t : Addr) (n : Int) (b : Addr) : Loc := [("served", .ref sv), ("live", .ref la), ("known", .ref kd), ("rows", .ref rd), ("tree", .ref t), ("first", .int n), ("script", .raw (.ref b))]
theorem law_end (hC : Of C) (hh : A.handled = none) (hr0 : Room A 30) {b : Addr} (L : Addr) {kd rd t la sv : Addr} {n : Int} {σ4 : MHeap} {F : Fo} {ra sa : Int → Addr} {l : List Int} {sq : Int → List Int} (o : FoOk F) (R : Rows σ4 rd F ra) (hk : σ4.L kd = some (nm (0 :: F.ids))) (hl : σ4.L la = some (nm l)) (S : Sv σ4 sv (0 :: F.ids) sa sq) (nd : l.Nodup) (lh : ∀ x ∈ l, F.has x) (G : ∀ p, F.has p → GreedyI (Wp F l p) (sq p)) (le : ∀ p, F.has p → (sq p).length ≤ 1000) :
    RunS (topC C A L) (base2 sv la kd rd t n b) σ4 ((fnBody (stTop 19)).drop 10) lawFin lawErr := by
  have hr : Room (topC C A L).A 29 := hr0.deeper (callEnvC (d_law C) L a_law)
  have hC' : Of (topC C A L).C := hC
  have l10 : l.length ≤ 10 := by
    have := len_sub (m := 0 :: F.ids) nd fun x hx => Fo.has_iff.mp (lh x hx)
    have := o.len
    rw [List.length_cons] at *
    omega
  have o9 := o.len
  conv in List.drop _ _ => whnf
  walk_at "st"
  refine r1_For_list (fun i m' σ' => base2 sv la kd rd t n b <:+ m' ∧ i ≤ F.ids.length + 1 ∧ Fr0 σ4 σ') (F.ids.length + 1) hh (fun _ => rfl) ?_
  walk_at "go"
  refine ⟨kd, rfl, ⟨List.suffix_refl _, Nat.zero_le _, Fr0.refl⟩, fun i m' σ' q => q.2.1, ?_⟩
  rintro i m' σ' ⟨hb, hi, f⟩
  refine ⟨nm (0 :: F.ids), (f kd (domL hk)).2.1.trans hk, fun v hv => ?_, fun hv => ?_⟩
  · have hi' : i < (0 :: F.ids).length := by
      obtain ⟨z, _⟩ := List.getElem?_eq_some_iff.mp hv
      rwa [lenN] at z
    obtain rfl : v = .int (0 :: F.ids)[i] := (Option.some.inj ((nm_get hi').symm.trans hv)).symm
    obtain ⟨x, ex⟩ : ∃ x, (0 :: F.ids)[i] = x := ⟨_, rfl⟩
    have hx : F.has x := Fo.has_iff.mpr (by rw [← ex]; exact List.getElem_mem hi')
    rw [ex]
    refine AsT.forget hb ?_
    walk_at "go"
    refine fun wd hwd => ?_
    have f1 : Fr0 σ4 (σ'.setD wd []) := f.step SameOff.setD (f.not hwd)
    have hw1 : (σ'.setD wd []).D wd = some (im []) := up_self _ _ _
    have nw : ¬ σ4.Dom wd := f.not hwd
    generalize σ'.setD wd [] = σ5 at f1 hw1 ⊢
    walk_at "go"
    refine r1_For_list (fun j m' σ' => ([("weights", .ref wd), ("p", .int x), ("served", .ref sv), ("live", .ref la), ("known", .ref kd), ("rows", .ref rd), ("tree", .ref t), ("first", .int n), ("script", .raw (.ref b))] : Loc) <:+ m' ∧ j ≤ l.length ∧ Fr0 σ4 σ' ∧ σ'.D wd = some (im (Wp F (l.take j) x))) l.length hh (fun _ => rfl) ?_
    walk_at "go"
    refine ⟨la, rfl, ⟨List.suffix_refl _, Nat.zero_le _, f1, hw1⟩, fun i m' σ' q => q.2.1, ?_⟩
    rintro j m2 σ2 ⟨hb2, hj, f2, hw2⟩
    refine ⟨nm l, (f2 la (domL hl)).2.1.trans hl, fun v hv => ?_, fun hv => ?_⟩
    · have hj' : j < l.length := by
        obtain ⟨z, _⟩ := List.getElem?_eq_some_iff.mp hv
        rwa [lenN] at z
      obtain rfl : v = .int l[j] := (Option.some.inj ((nm_get hj').symm.trans hv)).symm
      have ett : l.take (j + 1) = l.take j ++ [l[j]] := List.take_succ_eq_append_getElem hj'
      have yn : l[j] ∉ l.take j := fun m => by
        have := nd
        rw [← List.take_append_drop j l, List.drop_eq_getElem_cons hj', List.nodup_append] at this
        exact this.2.2 _ m _ (.head _) rfl
      have hyl : l[j] ∈ l := List.getElem_mem hj'
      generalize l[j] = y at ett yn hyl
      have hy := lh y hyl
      have R2 := R.fr f2
      refine AsT.forget hb2 ?_
      walk_at "go"
      refine sg_dict R2.d (R2.at_ hy) ?_
      walk_at "go"
      refine sg_list (R2.r y hy) (by decide) (by decide) rfl ?_
      walk_at "go"
      have eW : Wp F (l.take (j + 1)) x = if y ≠ 0 ∧ F.par y = x then Wp F (l.take j) x ++ [(y, F.wt y)] else Wp F (l.take j) x := by rw [ett, Wp_snoc]
      by_cases y0 : y = 0
      · rw [if_pos y0]
        refine o_eqNI ?_
        walk_at "go"
        exact ⟨List.suffix_cons _ _, hj', f2, by rw [eW, if_neg (fun z => z.1 y0)]; exact hw2⟩
      · rw [if_neg y0]
        walk_at "go"
        refine if_dec (fun q => ?_) (fun q => ?_)
        · walk_at "go"
          refine sg_dict R2.d (R2.at_ hy) ?_
          walk_at "go"
          refine sg_list (R2.r y hy) (by decide) (by decide) rfl ?_
          walk_at "go"
          have nk : y ∉ keysOf (Wp F (l.take j) x) := fun m => yn (mem_Wp.mp m).1
          refine si_dict hw2 ?_ ?_
          · rw [lenI, ← lenK]
            have := len_sub (m := l.take j) (nd_Wp (F := F) (p := x) (nd.sublist (List.take_sublist j l))) fun z hz => (mem_Wp.mp hz).1
            rw [List.length_take] at this
            omega
          rw [putK_im, setW_new nk]
          walk_at "go"
          exact ⟨List.suffix_cons _ _, hj', f2.step SameOff.setD nw, by rw [eW, if_pos ⟨y0, q⟩]; exact up_self _ _ _⟩
        · walk_at "go"
          exact ⟨List.suffix_cons _ _, hj', f2, by rw [eW, if_neg fun z => q z.2]; exact hw2⟩
    · have : j = l.length := by
        rw [List.getElem?_eq_none_iff, lenN] at hv; omega
      subst this
      rw [List.take_length] at hw2
      have S2 := S.fr f2
      refine RunL.forget hb2 ?_
      walk_at "go"
      refine sg_dict S2.d (atK_map (f := fun x => .ref (sa x)) (Fo.has_iff.mp hx)) ?_
      walk_at "go"
      have wl : (Wp F l x).length ≤ 10 := by
        rw [← lenK]
        have := len_sub (m := l) (nd_Wp (F := F) (p := x) nd) fun z hz => (mem_Wp.mp hz).1
        omega
      refine sp_shares (X := topC C A L) (r := 28) hC' hh hr (S2.r x (Fo.has_iff.mp hx)) hw2 (nd_Wp nd) (fun k hk => ?_) (le x hx) (by omega) (G x hx) fun σ6 f6 => ?_
      · rw [wAt_Wp hk]
        obtain ⟨h1, h2, _⟩ := mem_Wp.mp hk
        exact o.wt k ((lh k h1).elim (fun z => (h2 z).elim) id)
      walk_at "go"
      refine ⟨(List.suffix_cons _ _).trans (List.suffix_cons _ _), hi', fun a z => (f2 a z).trans (f6 a ((f2 a z).dom.mpr z))⟩
  · refine RunL.forget hb ?_
    walk_at "go"
    rfl
end
theorem hit_dead {C : Cx} (hC : Of C) : Hit C (.ref c_DeadlockError) (.ref c_DeadlockError) true := hit_of (by unfold Of at hC; rw [hC]; kernel_rfl) (by unfold Of at hC; rw [hC]; kernel_rfl) (by unfold Of at hC; rw [hC]; kernel_rfl)
theorem Up.len {F : Fo} (o : FoOk F) {s x : Int} {l : List Int} (u : Up F s x l) : l.length + F.rk s ≤ F.rk x := by
  induction u with
  | here => simp
  | step hs _ ih =>
    have := (o.up _ hs).2
    rw [List.length_cons]; omega
theorem Up.top0 {F : Fo} (o : FoOk F) {x : Int} {l : List Int} (u : Up F x 0 l) : (x = 0 ∧ l = []) ∨ (x ≠ 0 ∧ x ∈ F.ids ∧ ∃ r, l = x :: r ∧ Up F (F.par x) 0 r) := by
  cases u with
  | here => exact .inl ⟨rfl, rfl⟩
  | step h u => exact .inr ⟨o.ne0 h, h, _, rfl, u⟩
theorem LiveI.empty {F : Fo} (o : FoOk F) {l : List Int} (L : LiveI F l none) (h : (0 : Int) ∉ l) : l = [] := by
  have no : ∀ k x, 10 - F.rk x = k → x ∉ l := by
    intro k
    induction k using Nat.strongRecOn with
    | _ k ih =>
      intro x hk hx
      by_cases e : x = 0
      · subst e; exact h hx
      · have hi : x ∈ F.ids := (L.has x hx).elim (fun z => (e z).elim) id
        have up := (o.up x hi).2
        have r10 : F.rk (F.par x) ≤ 10 := by unfold Fo.rk; omega
        exact ih (10 - F.rk (F.par x)) (by omega) _ rfl ((L.up x hx e).elim id fun z => by cases z)
  cases l with
  | nil => rfl
  | cons a r => exact (no _ a rfl (.head _)).elim
structure Tn (σ : MHeap) (t : Addr) (p : PT) (T : Tree) (rd kd la sv : Addr) (F : Fo) (ra sa : Int → Addr) (l : List Int) (cnt : Int → Int) (sq : Int → List Int) (B : Nat) : Prop where
  O : PtOk σ t p T
  root : p.root = F.ad 0
  R : Rows σ rd F ra
  hk : σ.L kd = some (nm (0 :: F.ids))
  hl : σ.L la = some (nm l)
  S : Sv σ sv (0 :: F.ids) sa sq
  nf : ∀ a, (a = rd ∨ a = kd ∨ a = la ∨ a = sv ∨ ∃ x, F.has x ∧ (a = ra x ∨ a = sa x)) → ¬ FootP t p T a
  inj : ∀ x y, F.has x → F.has y → sa x = sa y → x = y
  ne : ∀ x, F.has x → sa x ≠ kd ∧ sa x ≠ la ∧ ∀ y, F.has y → sa x ≠ ra y
  Q : Sq F l cnt sq B
section
variable {σ : MHeap} {t : Addr} {p : PT} {T : Tree} {rd kd la sv : Addr} {F : Fo} {ra sa : Int → Addr} {l : List Int} {cnt : Int → Int} {sq : Int → List Int} {B : Nat}
theorem Tn.mine (w : Tn σ t p T rd kd la sv F ra sa l cnt sq B) {a : Addr} (h : a = rd ∨ a = kd ∨ a = la ∨ a = sv ∨ ∃ x, F.has x ∧ (a = ra x ∨ a = sa x)) : σ.Dom a := by
  rcases h with rfl | rfl | rfl | rfl | ⟨x, hx, rfl | rfl⟩
  · exact domD w.R.d
  · exact domL w.hk
  · exact domL w.hl
  · exact domD w.S.d
  · exact domL (w.R.r x hx)
  · exact domL (w.S.r x (Fo.has_iff.mp hx))
theorem Tn.app (w : Tn σ t p T rd kd la sv F ra sa l cnt sq B) {pr x : Int} {cnt' : Int → Int} (hp : F.has pr) (Q' : Sq F l cnt' (upd sq pr (sq pr ++ [x])) (B + 1)) : Tn (σ.setL (sa pr) (nm (sq pr) ++ [.int x])) t p T rd kd la sv F ra sa l cnt' (upd sq pr (sq pr ++ [x])) (B + 1) := by
  obtain ⟨n1, n2, n3⟩ := w.ne pr hp
  refine ⟨w.O.fresh SameOff.setL (w.nf _ (.inr (.inr (.inr (.inr ⟨pr, hp, .inr rfl⟩))))), w.root, ⟨w.R.d, fun z hz => (up_ne _ _ (Ne.symm (n3 z hz))).trans (w.R.r z hz)⟩, (up_ne _ _ (Ne.symm n1)).trans w.hk, (up_ne _ _ (Ne.symm n2)).trans w.hl, ⟨w.S.d, fun z hz => ?_⟩, w.nf, w.inj, w.ne, Q'⟩
  unfold upd
  by_cases e : z = pr
  · subst e
    rw [if_pos rfl]
    refine (up_self _ _ _).trans ?_
    unfold nm; simp
  · rw [if_neg e]
    exact (up_ne _ _ fun q => e (w.inj z pr (Fo.has_iff.mpr hz) hp q)).trans (w.S.r z hz)
theorem Tn.eqv (w : Tn σ t p T rd kd la sv F ra sa l cnt sq B) {cnt' : Int → Int} {B' : Nat} (h : ∀ d, d ∈ l → cnt' d = cnt d) (hB : B ≤ B') : Tn σ t p T rd kd la sv F ra sa l cnt' sq B' :=
  ⟨w.O, w.root, w.R, w.hk, w.hl, w.S, w.nf, w.inj, w.ne, w.Q.eq h hB⟩
theorem Tn.fresh {σ' : MHeap} {a : Addr} (w : Tn σ t p T rd kd la sv F ra sa l cnt sq B) (s : SameOff a σ σ') (h : ¬ σ.Dom a) : Tn σ' t p T rd kd la sv F ra sa l cnt sq B := by
  have ag : ∀ {b}, (b = rd ∨ b = kd ∨ b = la ∨ b = sv ∨ ∃ x, F.has x ∧ (b = ra x ∨ b = sa x)) → Agree σ σ' b := fun hb => s _ fun e => h (e ▸ w.mine hb)
  exact ⟨w.O.fresh s fun f => h (w.O.dom f), w.root, ⟨(ag (.inl rfl)).2.2.1.trans w.R.d, fun z hz => (ag (.inr (.inr (.inr (.inr ⟨z, hz, .inl rfl⟩))))).2.1.trans (w.R.r z hz)⟩, (ag (.inr (.inl rfl))).2.1.trans w.hk, (ag (.inr (.inr (.inl rfl)))).2.1.trans w.hl, ⟨(ag (.inr (.inr (.inr (.inl rfl))))).2.2.1.trans w.S.d, fun z hz => (ag (.inr (.inr (.inr (.inr ⟨z, Fo.has_iff.mpr hz, .inr rfl⟩))))).2.1.trans (w.S.r z hz)⟩, w.nf, w.inj, w.ne, w.Q⟩
theorem Tn.off (w : Tn σ t p T rd kd la sv F ra sa l cnt sq B) {σ' : MHeap} {T' : Tree} (R' : RepS σ' T') (f : Off T σ σ') (lk : Like T T') : PtOk σ' t p T' ∧ Rows σ' rd F ra ∧ σ'.L kd = some (nm (0 :: F.ids)) ∧ σ'.L la = some (nm l) ∧ Sv σ' sv (0 :: F.ids) sa sq ∧ ∀ a, (a = rd ∨ a = kd ∨ a = la ∨ a = sv ∨ ∃ x, F.has x ∧ (a = ra x ∨ a = sa x)) → ¬ FootP t p T' a := by
  have ag : ∀ {b}, (b = rd ∨ b = kd ∨ b = la ∨ b = sv ∨ ∃ x, F.has x ∧ (b = ra x ∨ b = sa x)) → Agree σ σ' b := fun hb => f _ (w.mine hb) fun z => w.nf _ hb (.inl z)
  refine ⟨⟨R', PtAt.off w.O f, fun z => w.O.nt ((lk.foot _).mp z), fun z => w.O.nd ((lk.foot _).mp z), fun z => w.O.ns ((lk.foot _).mp z)⟩, ⟨(ag (.inl rfl)).2.2.1.trans w.R.d, fun z hz => (ag (.inr (.inr (.inr (.inr ⟨z, hz, .inl rfl⟩))))).2.1.trans (w.R.r z hz)⟩, (ag (.inr (.inl rfl))).2.1.trans w.hk, (ag (.inr (.inr (.inl rfl)))).2.1.trans w.hl, ⟨(ag (.inr (.inr (.inr (.inl rfl))))).2.2.1.trans w.S.d, fun z hz => (ag (.inr (.inr (.inr (.inr ⟨z, Fo.has_iff.mpr hz, .inr rfl⟩))))).2.1.trans (w.S.r z hz)⟩, fun a ha z => ?_⟩
  rcases z with z | z
  · exact w.nf a ha (.inl ((lk.foot a).mp z))
  · exact w.nf a ha (.inr z)
end
section
variable {C : Cx} {A : Around}
theorem law_turns (hC : Of C) (hh : A.handled = none) (hr0 : Room A 30) {b : Addr} (L : Addr) {kd rd t la sv : Addr} {n : Int} {σ4 : MHeap} {p : PT} {T : Tree} {F : Fo} {ra sa : Int → Addr} {l : List Int} (o : FoOk F) (I0 : LiveI F l none) (ac : ∀ x, F.has x → F.act x = true → x ∈ l) (iq0 : ∃ Q, IQ F T (fun _ => 0) Q ∧ ∀ z, F.has z → (Q z).Perm (F.kids z)) (W0 : Tn σ4 t p T rd kd la sv F ra sa l (fun _ => 0) (fun _ => []) 0) {m : Loc} (hm : base2 sv la kd rd t n b <:+ m) :
    RunS (topC C A L) m σ4 ((fnBody (stTop 19)).drop 9) lawFin lawErr := by
  have hr : Room (topC C A L).A 29 := hr0.deeper (callEnvC (d_law C) L a_law)
  have hC' : Of (topC C A L).C := hC
  have lv := I0.lv o ac
  refine RunL.forget hm ?_
  conv in List.drop _ _ => whnf
  walk_at "st"
  refine r1_For_range (fun i m' σ' => base2 sv la kd rd t n b <:+ m' ∧ ∃ T cnt sq, (∃ Q, IQ F T cnt Q ∧ ∀ z, F.has z → (Q z).Perm (F.kids z)) ∧ Tn σ' t p T rd kd la sv F ra sa l cnt sq (10 * i)) 24 hh (fun _ => rfl) ?_
  refine er_call_name (by kernel_rfl) (by kernel_rfl) ?_
  walk_at "go"
  refine cr_range1 ?_
  refine ⟨by decide, by decide, ⟨List.suffix_refl _, T, _, _, iq0, W0⟩, ?_, ?_⟩
  · rintro i m' σ1 hi ⟨hb, T1, cnt, sq, ⟨Q, I, full⟩, W1⟩
    have hrk : ∀ z, F.has z → (fun a => F.rk (Mine.idT T1 a)) (F.ad z) = F.rk z := fun z hz => by show F.rk (Mine.idT T1 (F.ad z)) = _; rw [I.idT hz]
    have rkd : Ranked T1 (fun a => F.rk (Mine.idT T1 a)) := I.ranked o (rk := fun a => F.rk (Mine.idT T1 a)) hrk
    obtain ⟨n0, N0⟩ := I.node 0 (.inl rfl)
    have rk10 : ∀ z, F.rk z ≤ 10 := fun z => by unfold Fo.rk; omega
    have rk0 : F.rk 0 = 10 := by unfold Fo.rk; simp
    have hroot : T1 p.root = some n0 := by rw [W1.root]; exact N0.at_
    obtain ⟨al, _⟩ := runN_ok (fun a => F.rk (Mine.idT T1 a)) 23 T1 p.root n0 rkd (by show F.rk _ < 23; have := rk10 (Mine.idT T1 p.root); omega) hroot
    have lk := al.kin.like
    obtain ⟨cnt', Q', J, full', _, _, res⟩ := turn_ok o lv 23 T1 cnt Q 0 (.inl rfl) (by rw [rk0]; decide) rfl I fun z hz _ => full z hz
    have iq' : ∃ Q, IQ F (runN 23 T1 p.root).2 cnt' Q ∧ ∀ z, F.has z → (Q z).Perm (F.kids z) := ⟨Q', by rw [W1.root]; exact J, fun z hz => full' z hz (by rw [rk0]; exact rk10 z)⟩
    rw [← W1.root] at res
    refine AsT.forget hb ?_
    walk_at "ex"
    walk_at "bind"
    walk_at "st"
    refine RunL.mono (K := fun f m' σ' => f = FlowM.next ∧ ∃ v : MV, m' = ([("x", v), ("turn", .int (((0 : Int), (24 : Int), (1 : Int)).1 + (i : Nat) * ((0 : Int), (24 : Int), (1 : Int)).2.2)), ("served", .ref sv), ("live", .ref la), ("known", .ref kd), ("rows", .ref rd), ("tree", .ref t), ("first", .int n), ("script", .raw (.ref b))] : Loc) ∧ RepS σ' (runN 23 T1 p.root).2 ∧ Off T1 σ1 σ' ∧ v = match (runN 23 T1 p.root).1 with | some s => MV.int s | none => MV.str "deadlock") (KE := fun _ _ _ => False) ?_ ?_ fun _ _ _ z => z.elim
    · refine r1_Try (fun ex m' σ' => ex = .ref c_DeadlockError ∧ m' = ([("turn", .int (((0 : Int), (24 : Int), (1 : Int)).1 + (i : Nat) * ((0 : Int), (24 : Int), (1 : Int)).2.2)), ("served", .ref sv), ("live", .ref la), ("known", .ref kd), ("rows", .ref rd), ("tree", .ref t), ("first", .int n), ("script", .raw (.ref b))] : Loc) ∧ RepS σ' (runN 23 T1 p.root).2 ∧ Off T1 σ1 σ' ∧ (runN 23 T1 p.root).1 = none) ?_ ?_
      · walk_at "go"
        refine gm_T (X := topC C A L) hC' W1.O.at_ (facts_T hC').2.2.2.2.2 (by kernel_rfl) ?_
        walk_at "go"
        refine sp_nextD (X := topC C A L) (f := 23) hC' hh (fun a => F.rk (Mine.idT T1 a)) hr W1.O.at_ rkd (by show F.rk _ < 23; have := rk10 (Mine.idT T1 p.root); omega) W1.O.rep hroot N0.act fun σ2 R2 O2 => ?_
        cases hrun : (runN 23 T1 p.root).1 with
        | some s =>
          dsimp only
          walk_at "go"
          exact ⟨rfl, _, rfl, R2, O2, rfl⟩
        | none => exact ⟨rfl, rfl, R2, O2, rfl⟩
      · rintro ev ex m2 σ2 ⟨rfl, rfl, R2, O2, hrun⟩
        unfold HandleM
        walk_at "nm"
        refine ⟨_, true, rfl, hit_dead hC', rfl, ?_⟩
        rw [if_pos rfl]
        walk_at "go"
        exact ⟨rfl, _, rfl, R2, O2, by rw [hrun]⟩
    rintro f m2 σ2 ⟨rfl, v, rfl, R2, O2, ev⟩
    obtain ⟨P2, Rw2, hk2, hl2, S2, nf2⟩ := W1.off R2 O2 lk
    generalize hrun : (runN 23 T1 p.root).1 = r at res ev
    generalize (runN 23 T1 p.root).2 = T2 at R2 P2 nf2 iq' lk
    cases r with
    | none =>
      obtain ⟨dead, eqv⟩ := res
      subst ev
      have lE : l = [] := I0.empty o fun z => by
        rcases (lv 0 (.inl rfl)).mp z with q | ⟨c, hc, q⟩
        · cases q
        · exact dead c hc q
      have W2 : Tn σ2 t p T2 rd kd la sv F ra sa l cnt' sq (10 * (i + 1)) := ⟨P2, W1.root, Rw2, hk2, hl2, S2, nf2, W1.inj, W1.ne, W1.Q.eq eqv (by omega)⟩
      dsimp only
      walk_at "go"
      refine o_eqSS ?_
      walk_at "go"
      refine if_bool (fun _ => ?_) (fun z => absurd z (by decide))
      walk_at "go"
      refine ⟨by decide, fun E hE => ?_⟩
      have W3 := W2.fresh (SameOff.setL (x := [])) hE
      refine o_ne_ints (X := topC C A L) hr (ns := l) (ms := []) ((up_ne σ2.L _ fun e : la = E => hE (e ▸ domL hl2)).trans hl2) (up_self _ _ _) ?_
      generalize σ2.setL E [] = σ3 at W3 ⊢
      walk_at "go"
      refine if_dec (fun _ => ?_) (fun z => absurd lE z)
      walk_at "go"
      exact ⟨(List.suffix_cons _ _).trans (List.suffix_cons _ _), T2, cnt', sq, iq', W3⟩
    | some s =>
      obtain ⟨path, u, pne, sact, offs, first, cadd⟩ := res
      subst ev
      have W2 : Tn σ2 t p T2 rd kd la sv F ra sa l (fun d => cnt d + if d ∈ ([] : List Int) then 1 else 0) sq (10 * i + ([] : List Int).length) := ⟨P2, W1.root, Rw2, hk2, hl2, S2, nf2, W1.inj, W1.ne, W1.Q.eq (fun d _ => by simp) (by simp)⟩
      obtain ⟨s0, si⟩ : s ≠ 0 ∧ s ∈ F.ids := by
        rcases u.top0 o with ⟨_, e⟩ | ⟨a, b, _⟩
        · exact (pne e).elim
        · exact ⟨a, b⟩
      have hs : F.has s := .inr si
      dsimp only
      walk_at "go"
      refine o_eqIS ?_
      walk_at "go"
      refine o_notin_dict Rw2.d ?_
      rw [Rw2.at_ hs]
      walk_at "go"
      refine if_bool (fun _ => ?_) (fun z => absurd z (by simp))
      walk_at "go"
      refine sg_dict Rw2.d (Rw2.at_ hs) ?_
      walk_at "go"
      refine sg_list (Rw2.r s hs) (by decide) (by decide) rfl ?_
      rw [sact]
      walk_at "go"
      refine r1_While (fun k m' σ' => ∃ x done rest sq2, path = done ++ rest ∧ Up F s x done ∧ Up F x 0 rest ∧ k = rest.length ∧ ([("x", .int x), ("turn", .int (((0 : Int), (24 : Int), (1 : Int)).1 + (i : Nat) * ((0 : Int), (24 : Int), (1 : Int)).2.2)), ("served", .ref sv), ("live", .ref la), ("known", .ref kd), ("rows", .ref rd), ("tree", .ref t), ("first", .int n), ("script", .raw (.ref b))] : Loc) <:+ m' ∧ Tn σ' t p T2 rd kd la sv F ra sa l (fun d => cnt d + if d ∈ done then 1 else 0) sq2 (10 * i + done.length)) path.length ⟨s, [], path, sq, rfl, .here, u, rfl, List.suffix_refl _, W2⟩ ?_
      rintro k m3 σ3 ⟨x, done, rest, sq2, ep, ud, ur, rfl, hb3, W3⟩
      have dl := ud.len o
      have x10 := rk10 x
      refine RunE.forget hb3 ?_
      walk_at "go"
      rcases ur.top0 o with ⟨x0, re⟩ | ⟨x0, xi, r, re, ur'⟩
      · subst x0 re
        rw [List.append_nil] at ep
        subst ep
        refine if_dec (fun _ => ?_) (fun z => absurd rfl z)
        walk_at "go"
        exact ⟨((List.suffix_cons _ _).trans (List.suffix_cons _ _)).trans hb3, T2, cnt', sq2, iq', W3.eqv (fun d hd => (cadd d hd)) (by omega)⟩
      · subst re
        refine if_dec (fun z => absurd z x0) (fun _ => ?_)
        have hx : F.has x := .inr xi
        obtain ⟨hpx, rkx⟩ := o.up x xi
        have xp : x ∈ path := by rw [ep]; simp
        obtain ⟨xl, xf⟩ := first x xp
        have noact : F.act (F.par x) = false := by
          rcases ur'.top0 o with ⟨e, _⟩ | ⟨_, _, r2, e, _⟩
          · rw [e]; rfl
          · refine offs _ (by rw [ep, e]; simp) fun q => ?_
            have := (ud.rk o).1
            rw [q] at rkx
            omega
        have xd : x ∉ done := fun m => absurd ((ud.rk o).2.2 x m) (Nat.lt_irrefl _)
        have kd2 : ∀ d ∈ F.kids (F.par x), d ∉ done := fun d hd m => by
          obtain ⟨_, l', ul⟩ := ud.mem d m
          exact Desc.not_kid o (Fo.mem_kids.mpr ⟨xi, rfl⟩) hd ⟨l', ul⟩
        have f2 : FirstI F (fun z => z ∈ l) (fun d => cnt d + if d ∈ done then 1 else 0) x := fun d hd ld => by
          have := xf d hd ld
          dsimp only
          rw [if_neg xd, if_neg (kd2 d hd), Int.add_zero, Int.add_zero]
          exact this
        have Q4 := W3.Q.snoc I0.has xi xl x0 f2 (cnt' := fun d => cnt d + if d ∈ done ++ [x] then 1 else 0) fun d _ => by
          by_cases e : d = x
          · subst e; simp [xd]
          · simp [e]
        refine RunL.forget hb3 ?_
        walk_at "go"
        refine sg_dict W3.R.d (W3.R.at_ hx) ?_
        walk_at "go"
        refine sg_list (W3.R.r x hx) (by decide) (by decide) rfl ?_
        rw [if_neg x0]
        walk_at "go"
        refine sg_dict W3.R.d (W3.R.at_ hpx) ?_
        walk_at "go"
        refine sg_list (W3.R.r _ hpx) (by decide) (by decide) rfl ?_
        rw [noact]
        walk_at "go"
        refine sg_dict W3.S.d (atK_map (f := fun x => .ref (sa x)) (Fo.has_iff.mp hpx)) ?_
        refine gm_list (W3.S.r _ (Fo.has_iff.mp hpx)) PySem.F.slot_list_append PySem.F.type_list_append ?_
        walk_at "go"
        have W4 := W3.app hpx Q4
        refine cv_append (W3.S.r _ (Fo.has_iff.mp hpx)) (by rw [lenN]; have := W3.Q.le _ hpx; omega) ?_
        refine ⟨noref_none, ?_⟩
        generalize σ3.setL (sa (F.par x)) (nm (sq2 (F.par x)) ++ [MV.int x]) = σ5 at W4 ⊢
        walk_at "go"
        refine wk_next r.length (by simp) ⟨F.par x, done ++ [x], r, upd sq2 (F.par x) (sq2 (F.par x) ++ [x]), by rw [ep]; simp, ud.snoc xi, ur', rfl, List.suffix_cons _ _, ?_⟩
        rw [List.length_append]
        exact W4
  · rintro m' σ1 ⟨hb, T1, cnt, sq, _, W1⟩
    refine RunL.forget hb ?_
    walk_at "st"
    walk_at "st"
    exact law_end hC hh hr0 L o W1.R W1.hk W1.hl W1.S I0.nd I0.has W1.Q.gr fun p hp => Nat.le_trans (W1.Q.le p hp) (by decide)
end
section
variable {C : Cx} {A : Around}
theorem law_served (hC : Of C) (hh : A.handled = none) (hr0 : Room A 30) {b : Addr} (L : Addr) {kd rd t : Addr} {n : Int} {σ4 : MHeap} {p : PT} {T : Tree} {F : Fo} {g : Int → Bool} {ra : Int → Addr} (W0 : Wd σ4 t p T rd kd F g ra) (ga : ∀ x, F.has x → g x = F.act x) {m : Loc} (hm : baseL kd rd t n b <:+ m) :
    RunS (topC C A L) m σ4 ((fnBody (stTop 19)).drop 6) lawFin lawErr := by
  have hr : Room (topC C A L).A 29 := hr0.deeper (callEnvC (d_law C) L a_law)
  have hC' : Of (topC C A L).C := hC
  have o := W0.B.ok
  have R0 : Rows σ4 rd F ra := ⟨W0.R.d, fun x hx => by rw [← ga x hx]; exact W0.R.r x hx⟩
  refine RunL.forget hm ?_
  conv in List.drop _ _ => whnf
  walk_at "go"
  refine sp_live (X := topC C A L) (r := 28) hC' hh hr R0 o fun σ2 la l f2 nla hl I0 ac => ?_
  walk_at "go"
  refine fun sv hsv => ?_
  have f3 : Fr0 σ2 (σ2.setD sv []) := Fr0.refl.step SameOff.setD hsv
  have d3 : (σ2.setD sv []).D sv = some [] := up_self _ _ _
  generalize σ2.setD sv [] = σ3 at f3 d3 ⊢
  have hk2 : σ2.L kd = some (nm (0 :: F.ids)) := (f2 kd (domL W0.K)).2.1.trans W0.K
  have o9 := o.len
  walk_at "bind"
  walk_at "st"
  walk_at "st"
  refine r1_For_list (fun i m' σ' => base2 sv la kd rd t n b <:+ m' ∧ i ≤ F.ids.length + 1 ∧ Fr0 σ2 σ' ∧ ∃ sa, Sv σ' sv ((0 :: F.ids).take i) sa (fun _ => []) ∧ (∀ x ∈ (0 :: F.ids).take i, ¬ σ2.Dom (sa x)) ∧ ∀ x y, x ∈ (0 :: F.ids).take i → y ∈ (0 :: F.ids).take i → sa x = sa y → x = y) (F.ids.length + 1) hh (fun _ => rfl) ?_
  walk_at "go"
  refine ⟨kd, rfl, ⟨List.suffix_refl _, Nat.zero_le _, f3, fun _ => sv, ⟨d3, fun _ h => (by cases h)⟩, fun _ h => (by cases h), fun _ _ h => (by cases h)⟩, fun i m' σ' q => q.2.1, ?_⟩
  rintro i m' σ' ⟨hb, hi, f, sa, S, fresh, inj⟩
  refine ⟨nm (0 :: F.ids), (f kd (domL hk2)).2.1.trans hk2, fun v hv => ?_, fun hv => ?_⟩
  · have hi' : i < (0 :: F.ids).length := by
      obtain ⟨z, _⟩ := List.getElem?_eq_some_iff.mp hv
      rwa [lenN] at z
    obtain rfl : v = .int (0 :: F.ids)[i] := (Option.some.inj ((nm_get hi').symm.trans hv)).symm
    have ett : (0 :: F.ids).take (i + 1) = (0 :: F.ids).take i ++ [(0 :: F.ids)[i]] := List.take_succ_eq_append_getElem hi'
    have xn : (0 :: F.ids)[i] ∉ (0 :: F.ids).take i := fun m => by
      have := o.nd
      rw [← List.take_append_drop i (0 :: F.ids), List.drop_eq_getElem_cons hi', List.nodup_append] at this
      exact this.2.2 _ m _ (.head _) rfl
    generalize (0 :: F.ids)[i] = x at ett xn
    refine AsT.forget hb ?_
    walk_at "go"
    refine ⟨by decide, fun a ha => ?_⟩
    have na : ¬ σ2.Dom a := f.not ha
    have f4 : Fr0 σ2 (σ'.setL a []) := f.step SameOff.setL na
    walk_at "go"
    refine si_dict (X := topC C A L) (show (σ'.setL a []).D sv = some _ from S.d) (by rw [List.length_map, List.length_take, List.length_cons]; omega) ?_
    rw [putK_new (f := fun x => .ref (sa x)) xn]
    have axs : ∀ z ∈ (0 :: F.ids).take i, sa z ≠ a := fun z hz e => ha (e ▸ domL (S.r z hz))
    have nx : ∀ z ∈ (0 :: F.ids).take i, z ≠ x := fun z hz e => xn (e ▸ hz)
    walk_at "go"
    refine ⟨List.suffix_cons _ _, hi', f4.step SameOff.setD hsv, upd sa x a, ⟨?_, fun z hz => ?_⟩, fun z hz => ?_, fun z y hz hy e => ?_⟩
    · refine (up_self _ _ _).trans ?_
      rw [ett, List.map_append]
      congr 2
      · exact List.map_congr_left fun z hz => by unfold upd; rw [if_neg (nx z hz)]
      · unfold upd; simp
    · rw [ett] at hz
      unfold upd
      rcases List.mem_append.mp hz with q | q
      · rw [if_neg (nx z q)]
        exact (up_ne σ'.L _ (axs z q)).trans (S.r z q)
      · rw [List.mem_singleton] at q; subst q
        rw [if_pos rfl]; exact up_self σ'.L a _
    · rw [ett] at hz
      unfold upd
      rcases List.mem_append.mp hz with q | q
      · rw [if_neg (nx z q)]; exact fresh z q
      · rw [List.mem_singleton] at q; subst q
        rw [if_pos rfl]; exact na
    · rw [ett] at hz hy
      unfold upd at e
      rcases List.mem_append.mp hz with q | q <;> rcases List.mem_append.mp hy with q' | q'
      · rw [if_neg (nx z q), if_neg (nx y q')] at e
        exact inj z y q q' e
      · rw [List.mem_singleton] at q'; subst q'
        rw [if_neg (nx z q), if_pos rfl] at e
        exact (axs z q e).elim
      · rw [List.mem_singleton] at q; subst q
        rw [if_pos rfl, if_neg (nx y q')] at e
        exact (axs y q' e.symm).elim
      · rw [List.mem_singleton] at q q'
        rw [q, q']
  · have ei : i = (0 :: F.ids).length := by
      rw [List.getElem?_eq_none_iff, lenN] at hv
      rw [List.length_cons] at hv ⊢; omega
    rw [ei, List.take_length] at S fresh inj
    have fE : Fr0 σ4 σ' := fun a z => (f2 a z).trans (f a ((f2 a z).dom.mpr z))
    have O' : PtOk σ' t p T := W0.O.alike fun a fa => fE a (W0.O.dom fa)
    have dla : σ2.Dom la := domL hl
    have fs : ∀ x, F.has x → ¬ σ2.Dom (sa x) := fun x hx => fresh x (Fo.has_iff.mp hx)
    walk_at "st"
    walk_at "st"
    refine law_turns hC hh hr0 L o I0 ac W0.B.iq ⟨O', W0.B.root, R0.fr fE, (fE kd (domL W0.K)).2.1.trans W0.K, (f la dla).2.1.trans hl, S, fun a ha z => ?_, fun x y hx hy e => inj x y (Fo.has_iff.mp hx) (Fo.has_iff.mp hy) e, fun x hx => ⟨fun e => ?_, fun e => ?_, fun y hy e => ?_⟩, Sq.nil⟩ hb
    · have dz := W0.O.dom z
      rcases ha with e | e | e | e | ⟨x, hx, e | e⟩
      · exact W0.nf a (.inl e) z
      · exact W0.nf a (.inr (.inl e)) z
      · exact nla (e ▸ dz)
      · exact hsv (e ▸ (f2 _ dz).dom.mpr dz)
      · exact W0.nf a (.inr (.inr ⟨x, hx, e⟩)) z
      · exact fs x hx (e ▸ (f2 _ dz).dom.mpr dz)
    · exact fs x hx (e ▸ domL hk2)
    · exact fs x hx (e ▸ dla)
    · have d := domL (R0.r y hy)
      exact fs x hx (e ▸ (f2 _ d).dom.mpr d)
end
local macro_rules | `(tactic| walk_at "ex") => `(tactic| (first
  | (with_reducible refine' ev_sliceN ?_)
  | ((with_reducible refine' ev_script ?hn ?hv ?hG ?hz ?_); (case hG => assumption); (case hn => kernel_rfl); (case hv => (intro _ k; walk_at "ex"; exact k)); (case hz => omega))))
section
variable {C : Cx} {A : Around}
theorem walk_law (hC : Of C) (hh : A.handled = none) (hr0 : Room A 30) {b : Addr} {ns : List Int} (hs : GList C b ns) (hz : ns.length ≤ 63) (L : Addr) :
    RunS (topC C A L) [("script", .raw (.ref b))] MHeap.empty (fnBody (stTop 19)) (fun f _ σ' => retOf f = .bool true) (fun _ _ _ => False) := by
  have hr : Room (topC C A L).A 29 := hr0.deeper (callEnvC (d_law C) L a_law)
  have hC' : Of (topC C A L).C := hC
  conv in fnBody _ => whnf
  walk_at "st"
  refine RunL.mono (K := fun f m' σ' => f = FlowM.next ∧ ∃ n : Int, 0 ≤ n ∧ m' = ([("first", .int n), ("script", .raw (.ref b))] : Loc) ∧ σ' = MHeap.empty) (KE := fun _ _ _ => False) ?_ ?_ fun _ _ _ z => z
  · walk_at "go"
    refine t_listG (.old hs) (by simp; omega) ?_
    refine if_bool (fun hb => ?_) (fun hb => ?_)
    · have hne : ns ≠ [] := fun z => by rw [z] at hb; simp at hb
      have hpos := List.length_pos_iff.mpr hne
      walk_at "go"
      refine ⟨0, rfl, hpos, ?_⟩
      walk_at "go"
      refine cv_abs ?_
      walk_at "go"
      exact ⟨rfl, _, by split <;> omega, rfl, rfl⟩
    · walk_at "go"
      exact ⟨rfl, 0, Int.le_refl _, rfl, rfl⟩
  rintro f m' σ' ⟨rfl, n, n0, rfl, rfl⟩
  walk_at "go"
  refine cv_tree (r := 22) hC' hr fun σ3 t p x nx hroot hmx htab hnx O3 F3 hf3 => ?_
  walk_at "go"
  refine' ev_dictI ?hl ?hz ?_
  case hl => rfl
  case hz => decide
  refine ps_cons ?_
  walk_at "go"
  refine ⟨by decide, fun r0 hr0' => ?_⟩
  refine ps_nil ⟨[(0, .ref r0)], rfl, fun rd hrd => ?_⟩
  walk_at "go"
  refine ⟨by decide, fun kd hkd => ?_⟩
  have hB := Bd.start hroot hmx htab hnx
  have d1 : (σ3.setL r0 [.none, .bool false, .int 1]).Dom r0 := domL (up_self σ3.L r0 _)
  have d2 : ((σ3.setL r0 [.none, .bool false, .int 1]).setD rd (putAll [(0, MV.ref r0)])).Dom r0 := domL (up_self σ3.L r0 _)
  have d3 : ((σ3.setL r0 [.none, .bool false, .int 1]).setD rd (putAll [(0, MV.ref r0)])).Dom rd := domD (up_self _ rd _)
  have kr : kd ≠ r0 := fun e => hkd (by rw [e]; exact d2)
  have kdr : kd ≠ rd := fun e => hkd (by rw [e]; exact d3)
  have rr : rd ≠ r0 := fun e => hrd (by rw [e]; exact d1)
  have W0 : Wd (((σ3.setL r0 [.none, .bool false, .int 1]).setD rd (putAll [(0, MV.ref r0)])).setL kd [.int 0]) t p (upT (fun _ => none) x nx) rd kd (F0 x) (fun _ => false) (fun _ => r0) := by
    have n1 : ¬ FootP t p (upT (fun _ => none) x nx) r0 := fun f => hr0' (O3.dom f)
    have O4 := O3.fresh (SameOff.setL (x := [.none, .bool false, .int 1])) n1
    have n2 : ¬ FootP t p (upT (fun _ => none) x nx) rd := fun f => hrd (O4.dom f)
    have O5 := O4.fresh (SameOff.setD (x := putAll [(0, MV.ref r0)])) n2
    have n3 : ¬ FootP t p (upT (fun _ => none) x nx) kd := fun f => hkd (O5.dom f)
    have O6 := O5.fresh (SameOff.setL (x := [.int 0])) n3
    have h0 : ∀ {z}, (F0 x).has z → z = 0 := fun h => h.elim id fun q => by cases q
    refine ⟨O6, hB, ⟨up_self _ _ _, fun z hz => ?_, fun z y hz hy _ => (h0 hz).trans (h0 hy).symm, fun z hz => Ne.symm rr⟩, up_self _ _ _, ⟨Ne.symm kdr, fun z hz => Ne.symm kr⟩, fun a ha => ?_⟩
    · obtain rfl := h0 hz
      exact (up_ne _ _ (Ne.symm kr)).trans (up_self σ3.L r0 _)
    · rcases ha with rfl | rfl | ⟨z, hz, rfl⟩
      · exact n2
      · exact n3
      · exact n1
  generalize ((σ3.setL r0 [.none, .bool false, .int 1]).setD rd (putAll [(0, MV.ref r0)])).setL kd [.int 0] = σ4 at W0 ⊢
  walk_at "bind"
  walk_at "st"
  refine law_build hC hh hr0 hs hz L n0 W0 rfl (fun _ => rfl) rfl fun σ p T F g ra W on g0 => ?_
  refine law_block hC hh hr0 L W on g0 fun m σ T F g ra hm W ga => ?_
  exact law_served hC hh hr0 L W ga hm
end
theorem hc : WalkO Hd.q Hd.loose (XL Hd.q []) (kHook Hd.K Hd.Kas Hd.Kas_eq).says Hd.rwl.row.toRowW Hd.lawRec [] fun f vs => PySem.call f vs := by
  intro w s₀ s₁ mg mb G Y a o pm cd doc dV kV ho hd hcode hdf hmg hgens args vals as hpre hlay hreads hwell hlow
  refine enter_call ?_
  have hK : (Hd.K w.params).In s₁.heap := kIn_of Y
  let C : Cx := ⟨Hd.rwl.row.prog, w, s₁.heap, s₁.os, Hd.K w.params, mg, mb, hK, G.T.g, G.T.b, G.T.builtins, G.T.nolimit, G.T.seer (by decide +kernel), rfl⟩
  have hC : Of C := rfl
  have ea : a = a_law := by
    have h1 : mg "law" = some (.ref a) := hmg
    have h2 := mg_is (g_law hC)
    have h2 : mg "law" = some (.ref 368) := h2
    rw [h1] at h2
    exact Value.ref.inj (Option.some.inj h2)
  subst ea
  wrow_args hpre hlay hreads hwell hlow
  rename_i ns _ _ _ _ _ _ _ b vs _ hL _ _ _ hI _ hlen _
  refine top_cells (C := C) (ps := ["script"]) (m₀ := [("script", .raw (.ref b))]) (binds := [("script", .ref b)]) (ok_law hC) rfl rfl hgens rfl rfl (by decide +kernel) rfl (fun L => by kernel_rfl) (by kernel_rfl) ⟨_, [], rfl, VR.ofRaw, rfl⟩ (fun L => walk_law hC rfl ⟨by decide +kernel, by decide +kernel⟩ (ns := ns) ⟨vs.toArray, hL, by simpa using hI⟩ (by omega) L) _ fun s' keep hos hgen => ?_
  refine GoodW.toG ⟨.inl ⟨_, .bool true, [], rfl, ?_, .bool _, ?_, fun _ => ⟨.nil, fun a ha => by cases ha⟩⟩, keep, hos, hgen⟩
  · intro cls; rfl
  · wrow_post
theorem hw : Hd.rwl.row.toRowW.promised := by w_witness2
theorem done : Hd.rwl.Holds := Hd.head hw hc
end Mine
theorem PySem.Challenge.cw_jl0001_09_holds : PySem.Challenge.rw_jl0001_09.Holds :=
  Mine.done
