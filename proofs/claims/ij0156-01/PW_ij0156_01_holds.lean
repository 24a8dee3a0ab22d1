import PyProof.Rows.All
import Wide.All
import OpenK.AllK
import Wide.FinOn
import PySem.Challenge.RW_ij0156_01
open PySem PySem.W PyProof.Rows
set_option Elab.async false
set_option maxRecDepth 100000
set_option maxHeartbeats 8000000
set_option rowWalk.seconds 0
set_option compiler.extract_closed false

namespace Mine
/-! the head: the top is run by the kernel at once; of the heap behind it these objects are written out -/
noncomputable def sHd : List Stmt → Stmt
  | a :: _ => a
  | [] => default
noncomputable def sTl : List Stmt → List Stmt
  | _ :: l => l
  | [] => []
noncomputable def fP : Stmt → Arguments
  | .FunctionDef _ a _ _ _ _ _ _ _ _ => a
  | _ => default
noncomputable def fB : Stmt → List Stmt
  | .FunctionDef _ _ b _ _ _ _ _ _ _ => b
  | _ => []
noncomputable def fS : Stmt → Scope
  | .FunctionDef _ _ _ _ _ _ s _ _ _ => s
  | _ => default
noncomputable def cB : Stmt → List Stmt
  | .ClassDef _ _ _ b _ _ _ _ _ _ _ => b
  | _ => []
noncomputable def pwBody : List Stmt := PySem.Challenge.pw_ij0156_01.main.body
noncomputable def viewSrc : Program := { PySem.Challenge.pw_ij0156_01 with main := { PySem.Challenge.pw_ij0156_01.main with body := [sHd pwBody, sHd (sTl (sTl pwBody)), sHd (sTl (sTl (sTl pwBody))), sHd (sTl (sTl (sTl (sTl pwBody)))), sHd (sTl (sTl (sTl (sTl (sTl pwBody))))), sHd (sTl (sTl (sTl (sTl (sTl (sTl (sTl pwBody))))))), sHd (sTl (sTl (sTl (sTl (sTl (sTl (sTl (sTl (sTl pwBody))))))))), sHd (sTl (sTl (sTl (sTl (sTl (sTl (sTl (sTl (sTl (sTl pwBody)))))))))), sHd (sTl (sTl (sTl (sTl (sTl (sTl (sTl (sTl (sTl (sTl (sTl pwBody))))))))))), sHd (sTl (sTl (sTl (sTl (sTl (sTl (sTl (sTl (sTl (sTl (sTl (sTl pwBody)))))))))))), sHd (sTl (sTl (sTl (sTl (sTl (sTl (sTl (sTl (sTl (sTl (sTl (sTl (sTl (sTl pwBody)))))))))))))), sHd (sTl (sTl (sTl (sTl (sTl (sTl (sTl (sTl (sTl (sTl (sTl (sTl (sTl (sTl (sTl pwBody))))))))))))))), sHd (sTl (sTl (sTl (sTl (sTl (sTl (sTl (sTl (sTl (sTl (sTl (sTl (sTl (sTl (sTl (sTl (sTl pwBody))))))))))))))))), sHd (sTl (sTl (sTl (sTl (sTl (sTl (sTl (sTl (sTl (sTl (sTl (sTl (sTl (sTl (sTl (sTl (sTl (sTl pwBody)))))))))))))))))), sHd (sTl (sTl (sTl (sTl (sTl (sTl (sTl (sTl (sTl (sTl (sTl (sTl (sTl (sTl (sTl (sTl (sTl (sTl (sTl pwBody))))))))))))))))))), sHd (sTl (sTl (sTl (sTl (sTl (sTl (sTl (sTl (sTl (sTl (sTl (sTl (sTl (sTl (sTl (sTl (sTl (sTl (sTl (sTl pwBody)))))))))))))))))))), sHd (sTl (sTl (sTl (sTl (sTl (sTl (sTl (sTl (sTl (sTl (sTl (sTl (sTl (sTl (sTl (sTl (sTl (sTl (sTl (sTl (sTl pwBody))))))))))))))))))))), sHd (sTl (sTl (sTl (sTl (sTl (sTl (sTl (sTl (sTl (sTl (sTl (sTl (sTl (sTl (sTl (sTl (sTl (sTl (sTl (sTl (sTl (sTl (sTl pwBody))))))))))))))))))))))), sHd (sTl (sTl (sTl (sTl (sTl (sTl (sTl (sTl (sTl (sTl (sTl (sTl (sTl (sTl (sTl (sTl (sTl (sTl (sTl (sTl (sTl (sTl (sTl (sTl pwBody)))))))))))))))))))))))), sHd (sTl (sTl (sTl (sTl (sTl (sTl (sTl (sTl (sTl (sTl (sTl (sTl (sTl (sTl (sTl (sTl (sTl (sTl (sTl (sTl (sTl (sTl (sTl (sTl (sTl pwBody))))))))))))))))))))))))), sHd (sTl (sTl (sTl (sTl (sTl (sTl (sTl (sTl (sTl (sTl (sTl (sTl (sTl (sTl (sTl (sTl (sTl (sTl (sTl (sTl (sTl (sTl (sTl (sTl (sTl (sTl pwBody)))))))))))))))))))))))))), sHd (sTl (sTl (sTl (sTl (sTl (sTl (sTl (sTl (sTl (sTl (sTl (sTl (sTl (sTl (sTl (sTl (sTl (sTl (sTl (sTl (sTl (sTl (sTl (sTl (sTl (sTl (sTl pwBody)))))))))))))))))))))))))))] } }
noncomputable def hd.view_39 : Program := by
  exact (fun (_ : viewSrc = ?K) => ?K) (by dsimp only [viewSrc, sHd, sTl, pwBody, PySem.Challenge.pw_ij0156_01]; exact rfl)
noncomputable def hd.heap_39 : Params → Frag := by
  exact (fun (_ : [(fP (sHd pwBody), fB (sHd pwBody), fS (sHd pwBody)), (fP (sHd (sTl (sTl pwBody))), fB (sHd (sTl (sTl pwBody))), fS (sHd (sTl (sTl pwBody)))), (fP (sHd (sTl (sTl (sTl pwBody)))), fB (sHd (sTl (sTl (sTl pwBody)))), fS (sHd (sTl (sTl (sTl pwBody))))), (fP (sHd (sTl (cB (sHd (sTl (sTl (sTl (sTl pwBody)))))))), fB (sHd (sTl (cB (sHd (sTl (sTl (sTl (sTl pwBody)))))))), fS (sHd (sTl (cB (sHd (sTl (sTl (sTl (sTl pwBody))))))))), (fP (sHd (sTl (sTl (cB (sHd (sTl (sTl (sTl (sTl pwBody))))))))), fB (sHd (sTl (sTl (cB (sHd (sTl (sTl (sTl (sTl pwBody))))))))), fS (sHd (sTl (sTl (cB (sHd (sTl (sTl (sTl (sTl pwBody)))))))))), (fP (sHd (sTl (sTl (sTl (cB (sHd (sTl (sTl (sTl (sTl pwBody)))))))))), fB (sHd (sTl (sTl (sTl (cB (sHd (sTl (sTl (sTl (sTl pwBody)))))))))), fS (sHd (sTl (sTl (sTl (cB (sHd (sTl (sTl (sTl (sTl pwBody))))))))))), (fP (sHd (sTl (cB (sHd (sTl (sTl (sTl (sTl (sTl pwBody))))))))), fB (sHd (sTl (cB (sHd (sTl (sTl (sTl (sTl (sTl pwBody))))))))), fS (sHd (sTl (cB (sHd (sTl (sTl (sTl (sTl (sTl pwBody)))))))))), (fP (sHd (sTl (sTl (cB (sHd (sTl (sTl (sTl (sTl (sTl pwBody)))))))))), fB (sHd (sTl (sTl (cB (sHd (sTl (sTl (sTl (sTl (sTl pwBody)))))))))), fS (sHd (sTl (sTl (cB (sHd (sTl (sTl (sTl (sTl (sTl pwBody))))))))))), (fP (sHd (sTl (sTl (sTl (cB (sHd (sTl (sTl (sTl (sTl (sTl pwBody))))))))))), fB (sHd (sTl (sTl (sTl (cB (sHd (sTl (sTl (sTl (sTl (sTl pwBody))))))))))), fS (sHd (sTl (sTl (sTl (cB (sHd (sTl (sTl (sTl (sTl (sTl pwBody)))))))))))), (fP (sHd (sTl (sTl (sTl (sTl (sTl (sTl (sTl pwBody)))))))), fB (sHd (sTl (sTl (sTl (sTl (sTl (sTl (sTl pwBody)))))))), fS (sHd (sTl (sTl (sTl (sTl (sTl (sTl (sTl pwBody))))))))), (fP (sHd (sTl (sTl (sTl (sTl (sTl (sTl (sTl (sTl (sTl (sTl pwBody))))))))))), fB (sHd (sTl (sTl (sTl (sTl (sTl (sTl (sTl (sTl (sTl (sTl pwBody))))))))))), fS (sHd (sTl (sTl (sTl (sTl (sTl (sTl (sTl (sTl (sTl (sTl pwBody)))))))))))), (fP (sHd (sTl (sTl (sTl (sTl (sTl (sTl (sTl (sTl (sTl (sTl (sTl pwBody)))))))))))), fB (sHd (sTl (sTl (sTl (sTl (sTl (sTl (sTl (sTl (sTl (sTl (sTl pwBody)))))))))))), fS (sHd (sTl (sTl (sTl (sTl (sTl (sTl (sTl (sTl (sTl (sTl (sTl pwBody))))))))))))), (fP (sHd (sTl (sTl (sTl (sTl (sTl (sTl (sTl (sTl (sTl (sTl (sTl (sTl pwBody))))))))))))), fB (sHd (sTl (sTl (sTl (sTl (sTl (sTl (sTl (sTl (sTl (sTl (sTl (sTl pwBody))))))))))))), fS (sHd (sTl (sTl (sTl (sTl (sTl (sTl (sTl (sTl (sTl (sTl (sTl (sTl pwBody)))))))))))))), (fP (sHd (sTl (sTl (sTl (sTl (sTl (sTl (sTl (sTl (sTl (sTl (sTl (sTl (sTl (sTl pwBody))))))))))))))), fB (sHd (sTl (sTl (sTl (sTl (sTl (sTl (sTl (sTl (sTl (sTl (sTl (sTl (sTl (sTl pwBody))))))))))))))), fS (sHd (sTl (sTl (sTl (sTl (sTl (sTl (sTl (sTl (sTl (sTl (sTl (sTl (sTl (sTl pwBody)))))))))))))))), (fP (sHd (sTl (sTl (sTl (sTl (sTl (sTl (sTl (sTl (sTl (sTl (sTl (sTl (sTl (sTl (sTl pwBody)))))))))))))))), fB (sHd (sTl (sTl (sTl (sTl (sTl (sTl (sTl (sTl (sTl (sTl (sTl (sTl (sTl (sTl (sTl pwBody)))))))))))))))), fS (sHd (sTl (sTl (sTl (sTl (sTl (sTl (sTl (sTl (sTl (sTl (sTl (sTl (sTl (sTl (sTl pwBody))))))))))))))))), (fP (sHd (sTl (sTl (sTl (sTl (sTl (sTl (sTl (sTl (sTl (sTl (sTl (sTl (sTl (sTl (sTl (sTl (sTl pwBody)))))))))))))))))), fB (sHd (sTl (sTl (sTl (sTl (sTl (sTl (sTl (sTl (sTl (sTl (sTl (sTl (sTl (sTl (sTl (sTl (sTl pwBody)))))))))))))))))), fS (sHd (sTl (sTl (sTl (sTl (sTl (sTl (sTl (sTl (sTl (sTl (sTl (sTl (sTl (sTl (sTl (sTl (sTl pwBody))))))))))))))))))), (fP (sHd (sTl (sTl (sTl (sTl (sTl (sTl (sTl (sTl (sTl (sTl (sTl (sTl (sTl (sTl (sTl (sTl (sTl (sTl pwBody))))))))))))))))))), fB (sHd (sTl (sTl (sTl (sTl (sTl (sTl (sTl (sTl (sTl (sTl (sTl (sTl (sTl (sTl (sTl (sTl (sTl (sTl pwBody))))))))))))))))))), fS (sHd (sTl (sTl (sTl (sTl (sTl (sTl (sTl (sTl (sTl (sTl (sTl (sTl (sTl (sTl (sTl (sTl (sTl (sTl pwBody)))))))))))))))))))), (fP (sHd (sTl (sTl (sTl (sTl (sTl (sTl (sTl (sTl (sTl (sTl (sTl (sTl (sTl (sTl (sTl (sTl (sTl (sTl (sTl pwBody)))))))))))))))))))), fB (sHd (sTl (sTl (sTl (sTl (sTl (sTl (sTl (sTl (sTl (sTl (sTl (sTl (sTl (sTl (sTl (sTl (sTl (sTl (sTl pwBody)))))))))))))))))))), fS (sHd (sTl (sTl (sTl (sTl (sTl (sTl (sTl (sTl (sTl (sTl (sTl (sTl (sTl (sTl (sTl (sTl (sTl (sTl (sTl pwBody))))))))))))))))))))), (fP (sHd (sTl (sTl (sTl (sTl (sTl (sTl (sTl (sTl (sTl (sTl (sTl (sTl (sTl (sTl (sTl (sTl (sTl (sTl (sTl (sTl pwBody))))))))))))))))))))), fB (sHd (sTl (sTl (sTl (sTl (sTl (sTl (sTl (sTl (sTl (sTl (sTl (sTl (sTl (sTl (sTl (sTl (sTl (sTl (sTl (sTl pwBody))))))))))))))))))))), fS (sHd (sTl (sTl (sTl (sTl (sTl (sTl (sTl (sTl (sTl (sTl (sTl (sTl (sTl (sTl (sTl (sTl (sTl (sTl (sTl (sTl pwBody)))))))))))))))))))))), (fP (sHd (sTl (sTl (sTl (sTl (sTl (sTl (sTl (sTl (sTl (sTl (sTl (sTl (sTl (sTl (sTl (sTl (sTl (sTl (sTl (sTl (sTl pwBody)))))))))))))))))))))), fB (sHd (sTl (sTl (sTl (sTl (sTl (sTl (sTl (sTl (sTl (sTl (sTl (sTl (sTl (sTl (sTl (sTl (sTl (sTl (sTl (sTl (sTl pwBody)))))))))))))))))))))), fS (sHd (sTl (sTl (sTl (sTl (sTl (sTl (sTl (sTl (sTl (sTl (sTl (sTl (sTl (sTl (sTl (sTl (sTl (sTl (sTl (sTl (sTl pwBody))))))))))))))))))))))), (fP (sHd (sTl (sTl (sTl (sTl (sTl (sTl (sTl (sTl (sTl (sTl (sTl (sTl (sTl (sTl (sTl (sTl (sTl (sTl (sTl (sTl (sTl (sTl (sTl pwBody)))))))))))))))))))))))), fB (sHd (sTl (sTl (sTl (sTl (sTl (sTl (sTl (sTl (sTl (sTl (sTl (sTl (sTl (sTl (sTl (sTl (sTl (sTl (sTl (sTl (sTl (sTl (sTl pwBody)))))))))))))))))))))))), fS (sHd (sTl (sTl (sTl (sTl (sTl (sTl (sTl (sTl (sTl (sTl (sTl (sTl (sTl (sTl (sTl (sTl (sTl (sTl (sTl (sTl (sTl (sTl (sTl pwBody))))))))))))))))))))))))), (fP (sHd (sTl (sTl (sTl (sTl (sTl (sTl (sTl (sTl (sTl (sTl (sTl (sTl (sTl (sTl (sTl (sTl (sTl (sTl (sTl (sTl (sTl (sTl (sTl (sTl pwBody))))))))))))))))))))))))), fB (sHd (sTl (sTl (sTl (sTl (sTl (sTl (sTl (sTl (sTl (sTl (sTl (sTl (sTl (sTl (sTl (sTl (sTl (sTl (sTl (sTl (sTl (sTl (sTl (sTl pwBody))))))))))))))))))))))))), fS (sHd (sTl (sTl (sTl (sTl (sTl (sTl (sTl (sTl (sTl (sTl (sTl (sTl (sTl (sTl (sTl (sTl (sTl (sTl (sTl (sTl (sTl (sTl (sTl (sTl pwBody)))))))))))))))))))))))))), (fP (sHd (sTl (sTl (sTl (sTl (sTl (sTl (sTl (sTl (sTl (sTl (sTl (sTl (sTl (sTl (sTl (sTl (sTl (sTl (sTl (sTl (sTl (sTl (sTl (sTl (sTl pwBody)))))))))))))))))))))))))), fB (sHd (sTl (sTl (sTl (sTl (sTl (sTl (sTl (sTl (sTl (sTl (sTl (sTl (sTl (sTl (sTl (sTl (sTl (sTl (sTl (sTl (sTl (sTl (sTl (sTl (sTl pwBody)))))))))))))))))))))))))), fS (sHd (sTl (sTl (sTl (sTl (sTl (sTl (sTl (sTl (sTl (sTl (sTl (sTl (sTl (sTl (sTl (sTl (sTl (sTl (sTl (sTl (sTl (sTl (sTl (sTl (sTl pwBody))))))))))))))))))))))))))), (fP (sHd (sTl (sTl (sTl (sTl (sTl (sTl (sTl (sTl (sTl (sTl (sTl (sTl (sTl (sTl (sTl (sTl (sTl (sTl (sTl (sTl (sTl (sTl (sTl (sTl (sTl (sTl pwBody))))))))))))))))))))))))))), fB (sHd (sTl (sTl (sTl (sTl (sTl (sTl (sTl (sTl (sTl (sTl (sTl (sTl (sTl (sTl (sTl (sTl (sTl (sTl (sTl (sTl (sTl (sTl (sTl (sTl (sTl (sTl pwBody))))))))))))))))))))))))))), fS (sHd (sTl (sTl (sTl (sTl (sTl (sTl (sTl (sTl (sTl (sTl (sTl (sTl (sTl (sTl (sTl (sTl (sTl (sTl (sTl (sTl (sTl (sTl (sTl (sTl (sTl (sTl pwBody)))))))))))))))))))))))))))), (fP (sHd (sTl (sTl (sTl (sTl (sTl (sTl (sTl (sTl (sTl (sTl (sTl (sTl (sTl (sTl (sTl (sTl (sTl (sTl (sTl (sTl (sTl (sTl (sTl (sTl (sTl (sTl (sTl pwBody)))))))))))))))))))))))))))), fB (sHd (sTl (sTl (sTl (sTl (sTl (sTl (sTl (sTl (sTl (sTl (sTl (sTl (sTl (sTl (sTl (sTl (sTl (sTl (sTl (sTl (sTl (sTl (sTl (sTl (sTl (sTl (sTl pwBody)))))))))))))))))))))))))))), fS (sHd (sTl (sTl (sTl (sTl (sTl (sTl (sTl (sTl (sTl (sTl (sTl (sTl (sTl (sTl (sTl (sTl (sTl (sTl (sTl (sTl (sTl (sTl (sTl (sTl (sTl (sTl (sTl pwBody)))))))))))))))))))))))))))))] = [(?P0, ?B0, ?S0), (?P2, ?B2, ?S2), (?P3, ?B3, ?S3), (?P4_1, ?B4_1, ?S4_1), (?P4_2, ?B4_2, ?S4_2), (?P4_3, ?B4_3, ?S4_3), (?P5_1, ?B5_1, ?S5_1), (?P5_2, ?B5_2, ?S5_2), (?P5_3, ?B5_3, ?S5_3), (?P7, ?B7, ?S7), (?P10, ?B10, ?S10), (?P11, ?B11, ?S11), (?P12, ?B12, ?S12), (?P14, ?B14, ?S14), (?P15, ?B15, ?S15), (?P17, ?B17, ?S17), (?P18, ?B18, ?S18), (?P19, ?B19, ?S19), (?P20, ?B20, ?S20), (?P21, ?B21, ?S21), (?P23, ?B23, ?S23), (?P24, ?B24, ?S24), (?P25, ?B25, ?S25), (?P26, ?B26, ?S26), (?P27, ?B27, ?S27)]) => (fun P =>
  (nat_lit 2, (@PySem.Obj.mk PySem.Value.none none (@PySem.Data.dict #[] (0 : Nat)) #[])) ::
  (nat_lit 3, (@PySem.Obj.mk (@PySem.Value.type "dict") none (@PySem.Data.dict #[(@PySem.DictEntry.mk (@PySem.PyData.keyHash P (@PySem.Str.ofString "__name__")) (@PySem.Value.str (@PySem.Str.ofString "__name__") (165 : Nat)) (@PySem.Value.str (@PySem.Str.ofString "law_ij0156_01") (430 : Nat))), (@PySem.DictEntry.mk (@PySem.PyData.keyHash P (@PySem.Str.ofString "__doc__")) (@PySem.Value.str (@PySem.Str.ofString "__doc__") (166 : Nat)) PySem.Value.none), (@PySem.DictEntry.mk (@PySem.PyData.keyHash P (@PySem.Str.ofString "__package__")) (@PySem.Value.str (@PySem.Str.ofString "__package__") (167 : Nat)) PySem.Value.none), (@PySem.DictEntry.mk (@PySem.PyData.keyHash P (@PySem.Str.ofString "__loader__")) (@PySem.Value.str (@PySem.Str.ofString "__loader__") (168 : Nat)) (@PySem.Value.builtin "__main__.__loader__#opaque")), (@PySem.DictEntry.mk (@PySem.PyData.keyHash P (@PySem.Str.ofString "__spec__")) (@PySem.Value.str (@PySem.Str.ofString "__spec__") (169 : Nat)) PySem.Value.none), (@PySem.DictEntry.mk (@PySem.PyData.keyHash P (@PySem.Str.ofString "__annotations__")) (@PySem.Value.str (@PySem.Str.ofString "__annotations__") (170 : Nat)) (@PySem.Value.ref (6 : Nat))), (@PySem.DictEntry.mk (@PySem.PyData.keyHash P (@PySem.Str.ofString "__builtins__")) (@PySem.Value.str (@PySem.Str.ofString "__builtins__") (171 : Nat)) (@PySem.Value.ref (4 : Nat))), (@PySem.DictEntry.mk (@PySem.PyData.keyHash P (@PySem.Str.ofString "__file__")) (@PySem.Value.str (@PySem.Str.ofString "__file__") (173 : Nat)) (@PySem.Value.str (@PySem.Str.ofString "/claim/cut.py") (172 : Nat))), (@PySem.DictEntry.mk (@PySem.PyData.keyHash P (@PySem.Str.ofString "__cached__")) (@PySem.Value.str (@PySem.Str.ofString "__cached__") (174 : Nat)) PySem.Value.none), (@PySem.DictEntry.mk (@PySem.PyData.keyHash P (@PySem.Str.ofString "_wall")) (@PySem.Value.str (@PySem.Str.ofString "_wall") (193 : Nat)) (@PySem.Value.ref (21 : Nat))), (@PySem.DictEntry.mk (@PySem.PyData.keyHash P (@PySem.Str.ofString "_is_int")) (@PySem.Value.str (@PySem.Str.ofString "_is_int") (203 : Nat)) (@PySem.Value.ref (28 : Nat))), (@PySem.DictEntry.mk (@PySem.PyData.keyHash P (@PySem.Str.ofString "_whole")) (@PySem.Value.str (@PySem.Str.ofString "_whole") (212 : Nat)) (@PySem.Value.ref (35 : Nat))), (@PySem.DictEntry.mk (@PySem.PyData.keyHash P (@PySem.Str.ofString "islice")) (@PySem.Value.str (@PySem.Str.ofString "islice") (280 : Nat)) (@PySem.Value.ref (68 : Nat))), (@PySem.DictEntry.mk (@PySem.PyData.keyHash P (@PySem.Str.ofString "filterfalse")) (@PySem.Value.str (@PySem.Str.ofString "filterfalse") (330 : Nat)) (@PySem.Value.ref (108 : Nat))), (@PySem.DictEntry.mk (@PySem.PyData.keyHash P (@PySem.Str.ofString "_parents")) (@PySem.Value.str (@PySem.Str.ofString "_parents") (339 : Nat)) (@PySem.Value.ref (119 : Nat))), (@PySem.DictEntry.mk (@PySem.PyData.keyHash P (@PySem.Str.ofString "sep")) (@PySem.Value.str (@PySem.Str.ofString "sep") (343 : Nat)) (@PySem.Value.str (@PySem.Str.ofString "/") (342 : Nat))), (@PySem.DictEntry.mk (@PySem.PyData.keyHash P (@PySem.Str.ofString "_kind")) (@PySem.Value.str (@PySem.Str.ofString "_kind") (352 : Nat)) (@PySem.Value.ref (126 : Nat))), (@PySem.DictEntry.mk (@PySem.PyData.keyHash P (@PySem.Str.ofString "_fspath")) (@PySem.Value.str (@PySem.Str.ofString "_fspath") (361 : Nat)) (@PySem.Value.ref (133 : Nat))), (@PySem.DictEntry.mk (@PySem.PyData.keyHash P (@PySem.Str.ofString "split")) (@PySem.Value.str (@PySem.Str.ofString "split") (372 : Nat)) (@PySem.Value.ref (140 : Nat))), (@PySem.DictEntry.mk (@PySem.PyData.keyHash P (@PySem.Str.ofString "_ancestry")) (@PySem.Value.str (@PySem.Str.ofString "_ancestry") (382 : Nat)) (@PySem.Value.ref (147 : Nat))), (@PySem.DictEntry.mk (@PySem.PyData.keyHash P (@PySem.Str.ofString "_difference")) (@PySem.Value.str (@PySem.Str.ofString "_difference") (390 : Nat)) (@PySem.Value.ref (154 : Nat))), (@PySem.DictEntry.mk (@PySem.PyData.keyHash P (@PySem.Str.ofString "_ctoi")) (@PySem.Value.str (@PySem.Str.ofString "_ctoi") (399 : Nat)) (@PySem.Value.ref (161 : Nat))), (@PySem.DictEntry.mk (@PySem.PyData.keyHash P (@PySem.Str.ofString "isprint")) (@PySem.Value.str (@PySem.Str.ofString "isprint") (406 : Nat)) (@PySem.Value.ref (168 : Nat))), (@PySem.DictEntry.mk (@PySem.PyData.keyHash P (@PySem.Str.ofString "ctrl")) (@PySem.Value.str (@PySem.Str.ofString "ctrl") (413 : Nat)) (@PySem.Value.ref (175 : Nat))), (@PySem.DictEntry.mk (@PySem.PyData.keyHash P (@PySem.Str.ofString "alt")) (@PySem.Value.str (@PySem.Str.ofString "alt") (420 : Nat)) (@PySem.Value.ref (182 : Nat))), (@PySem.DictEntry.mk (@PySem.PyData.keyHash P (@PySem.Str.ofString "unctrl")) (@PySem.Value.str (@PySem.Str.ofString "unctrl") (429 : Nat)) (@PySem.Value.ref (189 : Nat))), (@PySem.DictEntry.mk (@PySem.PyData.keyHash P (@PySem.Str.ofString "_law_rows")) (@PySem.Value.str (@PySem.Str.ofString "_law_rows") (441 : Nat)) (@PySem.Value.ref (196 : Nat))), (@PySem.DictEntry.mk (@PySem.PyData.keyHash P (@PySem.Str.ofString "_law_octets")) (@PySem.Value.str (@PySem.Str.ofString "_law_octets") (451 : Nat)) (@PySem.Value.ref (203 : Nat))), (@PySem.DictEntry.mk (@PySem.PyData.keyHash P (@PySem.Str.ofString "_law_sign")) (@PySem.Value.str (@PySem.Str.ofString "_law_sign") (458 : Nat)) (@PySem.Value.ref (210 : Nat))), (@PySem.DictEntry.mk (@PySem.PyData.keyHash P (@PySem.Str.ofString "_law_read")) (@PySem.Value.str (@PySem.Str.ofString "_law_read") (464 : Nat)) (@PySem.Value.ref (215 : Nat))), (@PySem.DictEntry.mk (@PySem.PyData.keyHash P (@PySem.Str.ofString "law")) (@PySem.Value.str (@PySem.Str.ofString "law") (470 : Nat)) (@PySem.Value.ref (220 : Nat)))] (31 : Nat)) #[])) ::
  (nat_lit 15, (@PySem.Obj.mk (@PySem.Value.type "tuple") none (@PySem.Data.seq #[] (0 : Nat)) #[])) ::
  (nat_lit 17, (@PySem.Obj.mk (@PySem.Value.type "tuple") none (@PySem.Data.seq #[(@PySem.Value.str (@PySem.Str.ofString "k") (190 : Nat))] (0 : Nat)) #[])) ::
  (nat_lit 18, (@PySem.Obj.mk (@PySem.Value.type "tuple") none (@PySem.Data.seq #[] (0 : Nat)) #[])) ::
  (nat_lit 20, (@PySem.Obj.mk (@PySem.Value.type "code") none (@PySem.Data.fields #[(@PySem.Value.str (@PySem.Str.ofString "_wall") (187 : Nat)), (@PySem.Value.str (@PySem.Str.ofString "_wall") (188 : Nat)), (@PySem.Value.str (@PySem.Str.ofString "/claim/cut.py") (189 : Nat)), (@PySem.Value.int (1 : Int) (0 : Nat)), (@PySem.Value.int (1 : Int) (0 : Nat)), (@PySem.Value.int (0 : Int) (0 : Nat)), (@PySem.Value.int (0 : Int) (0 : Nat)), (@PySem.Value.int (3 : Int) (0 : Nat)), (@PySem.Value.ref (15 : Nat)), (@PySem.Value.bool Bool.true), (@PySem.Value.int (181 : Int) (0 : Nat)), (@PySem.Value.ref (16 : Nat)), PySem.Value.none, (@PySem.Value.ref (17 : Nat)), (@PySem.Value.ref (18 : Nat)), (@PySem.Value.ref (19 : Nat)), (@PySem.Value.int (191 : Int) (0 : Nat)), (@PySem.Value.int (1 : Int) (0 : Nat)), (@PySem.Value.str (@PySem.Str.ofString "/claim/cut.py") (192 : Nat))]) #[])) ::
  (nat_lit 21, (@PySem.Obj.mk (@PySem.Value.type "function") none (@PySem.Data.func (@PySem.FuncData.mk (@PySem.Str.ofString "_wall") (@PySem.Str.ofString "_wall") ?P0 (@PySem.FuncBody.stmts ?B0) ?S0 (3 : Nat) [] PySem.Value.none PySem.Value.none PySem.Value.none (@PySem.Value.str (@PySem.Str.ofString "__main__") (164 : Nat)) none (@PySem.Value.ref (20 : Nat)) PySem.Value.none (0 : Nat))) #[])) ::
  (nat_lit 22, (@PySem.Obj.mk (@PySem.Value.type "tuple") none (@PySem.Data.seq #[] (0 : Nat)) #[])) ::
  (nat_lit 24, (@PySem.Obj.mk (@PySem.Value.type "tuple") none (@PySem.Data.seq #[(@PySem.Value.str (@PySem.Str.ofString "x") (199 : Nat)), (@PySem.Value.str (@PySem.Str.ofString "t") (200 : Nat))] (0 : Nat)) #[])) ::
  (nat_lit 25, (@PySem.Obj.mk (@PySem.Value.type "tuple") none (@PySem.Data.seq #[] (0 : Nat)) #[])) ::
  (nat_lit 27, (@PySem.Obj.mk (@PySem.Value.type "code") none (@PySem.Data.fields #[(@PySem.Value.str (@PySem.Str.ofString "_is_int") (196 : Nat)), (@PySem.Value.str (@PySem.Str.ofString "_is_int") (197 : Nat)), (@PySem.Value.str (@PySem.Str.ofString "/claim/cut.py") (198 : Nat)), (@PySem.Value.int (5 : Int) (0 : Nat)), (@PySem.Value.int (1 : Int) (0 : Nat)), (@PySem.Value.int (0 : Int) (0 : Nat)), (@PySem.Value.int (0 : Int) (0 : Nat)), (@PySem.Value.int (3 : Int) (0 : Nat)), (@PySem.Value.ref (22 : Nat)), (@PySem.Value.bool Bool.true), (@PySem.Value.int (181 : Int) (0 : Nat)), (@PySem.Value.ref (23 : Nat)), PySem.Value.none, (@PySem.Value.ref (24 : Nat)), (@PySem.Value.ref (25 : Nat)), (@PySem.Value.ref (26 : Nat)), (@PySem.Value.int (201 : Int) (0 : Nat)), (@PySem.Value.int (5 : Int) (0 : Nat)), (@PySem.Value.str (@PySem.Str.ofString "/claim/cut.py") (202 : Nat))]) #[])) ::
  (nat_lit 28, (@PySem.Obj.mk (@PySem.Value.type "function") none (@PySem.Data.func (@PySem.FuncData.mk (@PySem.Str.ofString "_is_int") (@PySem.Str.ofString "_is_int") ?P2 (@PySem.FuncBody.stmts ?B2) ?S2 (3 : Nat) [] PySem.Value.none PySem.Value.none PySem.Value.none (@PySem.Value.str (@PySem.Str.ofString "itertools") (194 : Nat)) none (@PySem.Value.ref (27 : Nat)) PySem.Value.none (0 : Nat))) #[])) ::
  (nat_lit 29, (@PySem.Obj.mk (@PySem.Value.type "tuple") none (@PySem.Data.seq #[] (0 : Nat)) #[])) ::
  (nat_lit 31, (@PySem.Obj.mk (@PySem.Value.type "tuple") none (@PySem.Data.seq #[(@PySem.Value.str (@PySem.Str.ofString "x") (207 : Nat)), (@PySem.Value.str (@PySem.Str.ofString "top") (208 : Nat)), (@PySem.Value.str (@PySem.Str.ofString "what") (209 : Nat))] (0 : Nat)) #[])) ::
  (nat_lit 32, (@PySem.Obj.mk (@PySem.Value.type "tuple") none (@PySem.Data.seq #[] (0 : Nat)) #[])) ::
  (nat_lit 34, (@PySem.Obj.mk (@PySem.Value.type "code") none (@PySem.Data.fields #[(@PySem.Value.str (@PySem.Str.ofString "_whole") (204 : Nat)), (@PySem.Value.str (@PySem.Str.ofString "_whole") (205 : Nat)), (@PySem.Value.str (@PySem.Str.ofString "/claim/cut.py") (206 : Nat)), (@PySem.Value.int (8 : Int) (0 : Nat)), (@PySem.Value.int (3 : Int) (0 : Nat)), (@PySem.Value.int (0 : Int) (0 : Nat)), (@PySem.Value.int (0 : Int) (0 : Nat)), (@PySem.Value.int (3 : Int) (0 : Nat)), (@PySem.Value.ref (29 : Nat)), (@PySem.Value.bool Bool.true), (@PySem.Value.int (181 : Int) (0 : Nat)), (@PySem.Value.ref (30 : Nat)), PySem.Value.none, (@PySem.Value.ref (31 : Nat)), (@PySem.Value.ref (32 : Nat)), (@PySem.Value.ref (33 : Nat)), (@PySem.Value.int (210 : Int) (0 : Nat)), (@PySem.Value.int (8 : Int) (0 : Nat)), (@PySem.Value.str (@PySem.Str.ofString "/claim/cut.py") (211 : Nat))]) #[])) ::
  (nat_lit 35, (@PySem.Obj.mk (@PySem.Value.type "function") none (@PySem.Data.func (@PySem.FuncData.mk (@PySem.Str.ofString "_whole") (@PySem.Str.ofString "_whole") ?P3 (@PySem.FuncBody.stmts ?B3) ?S3 (3 : Nat) [] PySem.Value.none PySem.Value.none PySem.Value.none (@PySem.Value.str (@PySem.Str.ofString "itertools") (194 : Nat)) none (@PySem.Value.ref (34 : Nat)) PySem.Value.none (0 : Nat))) #[])) ::
  (nat_lit 43, (@PySem.Obj.mk (@PySem.Value.type "tuple") none (@PySem.Data.seq #[(@PySem.Value.str (@PySem.Str.ofString "_it") (225 : Nat)), (@PySem.Value.str (@PySem.Str.ofString "_next") (226 : Nat)), (@PySem.Value.str (@PySem.Str.ofString "_stop") (227 : Nat)), (@PySem.Value.str (@PySem.Str.ofString "_step") (228 : Nat)), (@PySem.Value.str (@PySem.Str.ofString "_cnt") (229 : Nat))] (0 : Nat)) #[])) ::
  (nat_lit 44, (@PySem.Obj.mk (@PySem.Value.type "tuple") none (@PySem.Data.seq #[] (0 : Nat)) #[])) ::
  (nat_lit 46, (@PySem.Obj.mk (@PySem.Value.type "tuple") none (@PySem.Data.seq #[(@PySem.Value.str (@PySem.Str.ofString "self") (234 : Nat)), (@PySem.Value.str (@PySem.Str.ofString "iterable") (235 : Nat)), (@PySem.Value.str (@PySem.Str.ofString "args") (236 : Nat)), (@PySem.Value.str (@PySem.Str.ofString "a") (237 : Nat)), (@PySem.Value.str (@PySem.Str.ofString "start") (238 : Nat)), (@PySem.Value.str (@PySem.Str.ofString "stop") (239 : Nat)), (@PySem.Value.str (@PySem.Str.ofString "step") (240 : Nat)), (@PySem.Value.str (@PySem.Str.ofString "a_stop") (241 : Nat))] (0 : Nat)) #[])) ::
  (nat_lit 47, (@PySem.Obj.mk (@PySem.Value.type "tuple") none (@PySem.Data.seq #[] (0 : Nat)) #[])) ::
  (nat_lit 49, (@PySem.Obj.mk (@PySem.Value.type "code") none (@PySem.Data.fields #[(@PySem.Value.str (@PySem.Str.ofString "__init__") (231 : Nat)), (@PySem.Value.str (@PySem.Str.ofString "islice.__init__") (232 : Nat)), (@PySem.Value.str (@PySem.Str.ofString "/claim/cut.py") (233 : Nat)), (@PySem.Value.int (16 : Int) (0 : Nat)), (@PySem.Value.int (2 : Int) (0 : Nat)), (@PySem.Value.int (2 : Int) (0 : Nat)), (@PySem.Value.int (0 : Int) (0 : Nat)), (@PySem.Value.int (7 : Int) (0 : Nat)), (@PySem.Value.ref (44 : Nat)), (@PySem.Value.bool Bool.true), (@PySem.Value.int (181 : Int) (0 : Nat)), (@PySem.Value.ref (45 : Nat)), PySem.Value.none, (@PySem.Value.ref (46 : Nat)), (@PySem.Value.ref (47 : Nat)), (@PySem.Value.ref (48 : Nat)), (@PySem.Value.int (242 : Int) (0 : Nat)), (@PySem.Value.int (16 : Int) (0 : Nat)), (@PySem.Value.str (@PySem.Str.ofString "/claim/cut.py") (243 : Nat))]) #[])) ::
  (nat_lit 50, (@PySem.Obj.mk (@PySem.Value.type "function") none (@PySem.Data.func (@PySem.FuncData.mk (@PySem.Str.ofString "__init__") (@PySem.Str.ofString "islice.__init__") ?P4_1 (@PySem.FuncBody.stmts ?B4_1) ?S4_1 (3 : Nat) [] PySem.Value.none PySem.Value.none PySem.Value.none (@PySem.Value.str (@PySem.Str.ofString "itertools") (194 : Nat)) none (@PySem.Value.ref (49 : Nat)) PySem.Value.none (0 : Nat))) #[])) ::
  (nat_lit 51, (@PySem.Obj.mk (@PySem.Value.type "tuple") none (@PySem.Data.seq #[] (0 : Nat)) #[])) ::
  (nat_lit 53, (@PySem.Obj.mk (@PySem.Value.type "tuple") none (@PySem.Data.seq #[(@PySem.Value.str (@PySem.Str.ofString "self") (248 : Nat))] (0 : Nat)) #[])) ::
  (nat_lit 54, (@PySem.Obj.mk (@PySem.Value.type "tuple") none (@PySem.Data.seq #[] (0 : Nat)) #[])) ::
  (nat_lit 56, (@PySem.Obj.mk (@PySem.Value.type "code") none (@PySem.Data.fields #[(@PySem.Value.str (@PySem.Str.ofString "__iter__") (245 : Nat)), (@PySem.Value.str (@PySem.Str.ofString "islice.__iter__") (246 : Nat)), (@PySem.Value.str (@PySem.Str.ofString "/claim/cut.py") (247 : Nat)), (@PySem.Value.int (47 : Int) (0 : Nat)), (@PySem.Value.int (1 : Int) (0 : Nat)), (@PySem.Value.int (0 : Int) (0 : Nat)), (@PySem.Value.int (0 : Int) (0 : Nat)), (@PySem.Value.int (3 : Int) (0 : Nat)), (@PySem.Value.ref (51 : Nat)), (@PySem.Value.bool Bool.true), (@PySem.Value.int (181 : Int) (0 : Nat)), (@PySem.Value.ref (52 : Nat)), PySem.Value.none, (@PySem.Value.ref (53 : Nat)), (@PySem.Value.ref (54 : Nat)), (@PySem.Value.ref (55 : Nat)), (@PySem.Value.int (249 : Int) (0 : Nat)), (@PySem.Value.int (47 : Int) (0 : Nat)), (@PySem.Value.str (@PySem.Str.ofString "/claim/cut.py") (250 : Nat))]) #[])) ::
  (nat_lit 57, (@PySem.Obj.mk (@PySem.Value.type "function") none (@PySem.Data.func (@PySem.FuncData.mk (@PySem.Str.ofString "__iter__") (@PySem.Str.ofString "islice.__iter__") ?P4_2 (@PySem.FuncBody.stmts ?B4_2) ?S5_2 (3 : Nat) [] PySem.Value.none PySem.Value.none PySem.Value.none (@PySem.Value.str (@PySem.Str.ofString "itertools") (194 : Nat)) none (@PySem.Value.ref (56 : Nat)) PySem.Value.none (0 : Nat))) #[])) ::
  (nat_lit 58, (@PySem.Obj.mk (@PySem.Value.type "tuple") none (@PySem.Data.seq #[] (0 : Nat)) #[])) ::
  (nat_lit 60, (@PySem.Obj.mk (@PySem.Value.type "tuple") none (@PySem.Data.seq #[(@PySem.Value.str (@PySem.Str.ofString "self") (255 : Nat)), (@PySem.Value.str (@PySem.Str.ofString "it") (256 : Nat)), (@PySem.Value.str (@PySem.Str.ofString "stop") (257 : Nat)), (@PySem.Value.str (@PySem.Str.ofString "item") (258 : Nat))] (0 : Nat)) #[])) ::
  (nat_lit 61, (@PySem.Obj.mk (@PySem.Value.type "tuple") none (@PySem.Data.seq #[] (0 : Nat)) #[])) ::
  (nat_lit 63, (@PySem.Obj.mk (@PySem.Value.type "code") none (@PySem.Data.fields #[(@PySem.Value.str (@PySem.Str.ofString "__next__") (252 : Nat)), (@PySem.Value.str (@PySem.Str.ofString "islice.__next__") (253 : Nat)), (@PySem.Value.str (@PySem.Str.ofString "/claim/cut.py") (254 : Nat)), (@PySem.Value.int (50 : Int) (0 : Nat)), (@PySem.Value.int (1 : Int) (0 : Nat)), (@PySem.Value.int (0 : Int) (0 : Nat)), (@PySem.Value.int (0 : Int) (0 : Nat)), (@PySem.Value.int (3 : Int) (0 : Nat)), (@PySem.Value.ref (58 : Nat)), (@PySem.Value.bool Bool.true), (@PySem.Value.int (181 : Int) (0 : Nat)), (@PySem.Value.ref (59 : Nat)), PySem.Value.none, (@PySem.Value.ref (60 : Nat)), (@PySem.Value.ref (61 : Nat)), (@PySem.Value.ref (62 : Nat)), (@PySem.Value.int (259 : Int) (0 : Nat)), (@PySem.Value.int (50 : Int) (0 : Nat)), (@PySem.Value.str (@PySem.Str.ofString "/claim/cut.py") (260 : Nat))]) #[])) ::
  (nat_lit 64, (@PySem.Obj.mk (@PySem.Value.type "function") none (@PySem.Data.func (@PySem.FuncData.mk (@PySem.Str.ofString "__next__") (@PySem.Str.ofString "islice.__next__") ?P4_3 (@PySem.FuncBody.stmts ?B4_3) ?S4_3 (3 : Nat) [] PySem.Value.none PySem.Value.none PySem.Value.none (@PySem.Value.str (@PySem.Str.ofString "itertools") (194 : Nat)) none (@PySem.Value.ref (63 : Nat)) PySem.Value.none (0 : Nat))) #[])) ::
  (nat_lit 65, (@PySem.Obj.mk (@PySem.Value.type "tuple") none (@PySem.Data.seq #[(@PySem.Value.str (@PySem.Str.ofString "_cnt") (262 : Nat)), (@PySem.Value.str (@PySem.Str.ofString "_it") (263 : Nat)), (@PySem.Value.str (@PySem.Str.ofString "_next") (264 : Nat)), (@PySem.Value.str (@PySem.Str.ofString "_step") (265 : Nat)), (@PySem.Value.str (@PySem.Str.ofString "_stop") (266 : Nat))] (0 : Nat)) #[])) ::
  (nat_lit 67, (@PySem.Obj.mk (@PySem.Value.type "dict") none (@PySem.Data.dict #[(@PySem.DictEntry.mk (@PySem.PyData.keyHash P (@PySem.Str.ofString "__module__")) (@PySem.Value.str (@PySem.Str.ofString "__module__") (220 : Nat)) (@PySem.Value.str (@PySem.Str.ofString "itertools") (194 : Nat))), (@PySem.DictEntry.mk (@PySem.PyData.keyHash P (@PySem.Str.ofString "__firstlineno__")) (@PySem.Value.str (@PySem.Str.ofString "__firstlineno__") (224 : Nat)) (@PySem.Value.int (13 : Int) (223 : Nat))), (@PySem.DictEntry.mk (@PySem.PyData.keyHash P (@PySem.Str.ofString "__slots__")) (@PySem.Value.str (@PySem.Str.ofString "__slots__") (230 : Nat)) (@PySem.Value.ref (43 : Nat))), (@PySem.DictEntry.mk (@PySem.PyData.keyHash P (@PySem.Str.ofString "__init__")) (@PySem.Value.str (@PySem.Str.ofString "__init__") (244 : Nat)) (@PySem.Value.ref (50 : Nat))), (@PySem.DictEntry.mk (@PySem.PyData.keyHash P (@PySem.Str.ofString "__iter__")) (@PySem.Value.str (@PySem.Str.ofString "__iter__") (251 : Nat)) (@PySem.Value.ref (57 : Nat))), (@PySem.DictEntry.mk (@PySem.PyData.keyHash P (@PySem.Str.ofString "__next__")) (@PySem.Value.str (@PySem.Str.ofString "__next__") (261 : Nat)) (@PySem.Value.ref (64 : Nat))), (@PySem.DictEntry.mk (@PySem.PyData.keyHash P (@PySem.Str.ofString "__static_attributes__")) (@PySem.Value.str (@PySem.Str.ofString "__static_attributes__") (267 : Nat)) (@PySem.Value.ref (65 : Nat))), (@PySem.DictEntry.mk (@PySem.PyData.keyHash P (@PySem.Str.ofString "_cnt")) (@PySem.Value.str (@PySem.Str.ofString "_cnt") (269 : Nat)) (@PySem.Value.ref (69 : Nat))), (@PySem.DictEntry.mk (@PySem.PyData.keyHash P (@PySem.Str.ofString "_it")) (@PySem.Value.str (@PySem.Str.ofString "_it") (271 : Nat)) (@PySem.Value.ref (70 : Nat))), (@PySem.DictEntry.mk (@PySem.PyData.keyHash P (@PySem.Str.ofString "_next")) (@PySem.Value.str (@PySem.Str.ofString "_next") (273 : Nat)) (@PySem.Value.ref (71 : Nat))), (@PySem.DictEntry.mk (@PySem.PyData.keyHash P (@PySem.Str.ofString "_step")) (@PySem.Value.str (@PySem.Str.ofString "_step") (275 : Nat)) (@PySem.Value.ref (72 : Nat))), (@PySem.DictEntry.mk (@PySem.PyData.keyHash P (@PySem.Str.ofString "_stop")) (@PySem.Value.str (@PySem.Str.ofString "_stop") (277 : Nat)) (@PySem.Value.ref (73 : Nat))), (@PySem.DictEntry.mk (@PySem.PyData.keyHash P (@PySem.Str.ofString "__doc__")) (@PySem.Value.str (@PySem.Str.ofString "__doc__") (278 : Nat)) PySem.Value.none)] (7 : Nat)) #[])) ::
  (nat_lit 68, (@PySem.Obj.mk (@PySem.Value.type "type") none (@PySem.Data.cls (@PySem.ClassData.mk (@PySem.Str.ofString "islice") [(@PySem.Value.type "object")] [(@PySem.Value.ref (68 : Nat)), (@PySem.Value.type "object")] (67 : Nat) (@PySem.Str.ofString "islice") Bool.false [(@PySem.Str.ofString "_cnt"), (@PySem.Str.ofString "_it"), (@PySem.Str.ofString "_next"), (@PySem.Str.ofString "_step"), (@PySem.Str.ofString "_stop")] [] Bool.false none Bool.false)) #[none, none, (some (@PySem.Value.str (@PySem.Str.ofString "islice") (213 : Nat))), (some (@PySem.Value.str (@PySem.Str.ofString "islice") (221 : Nat))), (some (@PySem.Value.builtin "object.__new__")), (some (@PySem.Value.bool Bool.false))])) ::
  (nat_lit 69, (@PySem.Obj.mk (@PySem.Value.type "member_descriptor") none (@PySem.Data.fields #[(@PySem.Value.str (@PySem.Str.ofString "_cnt") (268 : Nat)), (@PySem.Value.ref (68 : Nat)), (@PySem.Value.builtin "proto.slot"), (@PySem.Value.builtin "proto.slot#set"), (@PySem.Value.int (4 : Int) (0 : Nat))]) #[])) ::
  (nat_lit 70, (@PySem.Obj.mk (@PySem.Value.type "member_descriptor") none (@PySem.Data.fields #[(@PySem.Value.str (@PySem.Str.ofString "_it") (270 : Nat)), (@PySem.Value.ref (68 : Nat)), (@PySem.Value.builtin "proto.slot"), (@PySem.Value.builtin "proto.slot#set"), (@PySem.Value.int (3 : Int) (0 : Nat))]) #[])) ::
  (nat_lit 71, (@PySem.Obj.mk (@PySem.Value.type "member_descriptor") none (@PySem.Data.fields #[(@PySem.Value.str (@PySem.Str.ofString "_next") (272 : Nat)), (@PySem.Value.ref (68 : Nat)), (@PySem.Value.builtin "proto.slot"), (@PySem.Value.builtin "proto.slot#set"), (@PySem.Value.int (2 : Int) (0 : Nat))]) #[])) ::
  (nat_lit 72, (@PySem.Obj.mk (@PySem.Value.type "member_descriptor") none (@PySem.Data.fields #[(@PySem.Value.str (@PySem.Str.ofString "_step") (274 : Nat)), (@PySem.Value.ref (68 : Nat)), (@PySem.Value.builtin "proto.slot"), (@PySem.Value.builtin "proto.slot#set"), (@PySem.Value.int (1 : Int) (0 : Nat))]) #[])) ::
  (nat_lit 73, (@PySem.Obj.mk (@PySem.Value.type "member_descriptor") none (@PySem.Data.fields #[(@PySem.Value.str (@PySem.Str.ofString "_stop") (276 : Nat)), (@PySem.Value.ref (68 : Nat)), (@PySem.Value.builtin "proto.slot"), (@PySem.Value.builtin "proto.slot#set"), (@PySem.Value.int (0 : Int) (0 : Nat))]) #[])) ::
  (nat_lit 83, (@PySem.Obj.mk (@PySem.Value.type "tuple") none (@PySem.Data.seq #[(@PySem.Value.str (@PySem.Str.ofString "_it") (293 : Nat)), (@PySem.Value.str (@PySem.Str.ofString "_func") (294 : Nat))] (0 : Nat)) #[])) ::
  (nat_lit 84, (@PySem.Obj.mk (@PySem.Value.type "tuple") none (@PySem.Data.seq #[] (0 : Nat)) #[])) ::
  (nat_lit 86, (@PySem.Obj.mk (@PySem.Value.type "tuple") none (@PySem.Data.seq #[(@PySem.Value.str (@PySem.Str.ofString "self") (299 : Nat)), (@PySem.Value.str (@PySem.Str.ofString "function") (300 : Nat)), (@PySem.Value.str (@PySem.Str.ofString "iterable") (301 : Nat))] (0 : Nat)) #[])) ::
  (nat_lit 87, (@PySem.Obj.mk (@PySem.Value.type "tuple") none (@PySem.Data.seq #[] (0 : Nat)) #[])) ::
  (nat_lit 89, (@PySem.Obj.mk (@PySem.Value.type "code") none (@PySem.Data.fields #[(@PySem.Value.str (@PySem.Str.ofString "__init__") (296 : Nat)), (@PySem.Value.str (@PySem.Str.ofString "filterfalse.__init__") (297 : Nat)), (@PySem.Value.str (@PySem.Str.ofString "/claim/cut.py") (298 : Nat)), (@PySem.Value.int (73 : Int) (0 : Nat)), (@PySem.Value.int (3 : Int) (0 : Nat)), (@PySem.Value.int (3 : Int) (0 : Nat)), (@PySem.Value.int (0 : Int) (0 : Nat)), (@PySem.Value.int (3 : Int) (0 : Nat)), (@PySem.Value.ref (84 : Nat)), (@PySem.Value.bool Bool.true), (@PySem.Value.int (181 : Int) (0 : Nat)), (@PySem.Value.ref (85 : Nat)), PySem.Value.none, (@PySem.Value.ref (86 : Nat)), (@PySem.Value.ref (87 : Nat)), (@PySem.Value.ref (88 : Nat)), (@PySem.Value.int (302 : Int) (0 : Nat)), (@PySem.Value.int (73 : Int) (0 : Nat)), (@PySem.Value.str (@PySem.Str.ofString "/claim/cut.py") (303 : Nat))]) #[])) ::
  (nat_lit 90, (@PySem.Obj.mk (@PySem.Value.type "function") none (@PySem.Data.func (@PySem.FuncData.mk (@PySem.Str.ofString "__init__") (@PySem.Str.ofString "filterfalse.__init__") ?P5_1 (@PySem.FuncBody.stmts ?B5_1) ?S5_1 (3 : Nat) [] PySem.Value.none PySem.Value.none PySem.Value.none (@PySem.Value.str (@PySem.Str.ofString "itertools") (194 : Nat)) none (@PySem.Value.ref (89 : Nat)) PySem.Value.none (0 : Nat))) #[])) ::
  (nat_lit 91, (@PySem.Obj.mk (@PySem.Value.type "tuple") none (@PySem.Data.seq #[] (0 : Nat)) #[])) ::
  (nat_lit 93, (@PySem.Obj.mk (@PySem.Value.type "tuple") none (@PySem.Data.seq #[(@PySem.Value.str (@PySem.Str.ofString "self") (308 : Nat))] (0 : Nat)) #[])) ::
  (nat_lit 94, (@PySem.Obj.mk (@PySem.Value.type "tuple") none (@PySem.Data.seq #[] (0 : Nat)) #[])) ::
  (nat_lit 96, (@PySem.Obj.mk (@PySem.Value.type "code") none (@PySem.Data.fields #[(@PySem.Value.str (@PySem.Str.ofString "__iter__") (305 : Nat)), (@PySem.Value.str (@PySem.Str.ofString "filterfalse.__iter__") (306 : Nat)), (@PySem.Value.str (@PySem.Str.ofString "/claim/cut.py") (307 : Nat)), (@PySem.Value.int (77 : Int) (0 : Nat)), (@PySem.Value.int (1 : Int) (0 : Nat)), (@PySem.Value.int (0 : Int) (0 : Nat)), (@PySem.Value.int (0 : Int) (0 : Nat)), (@PySem.Value.int (3 : Int) (0 : Nat)), (@PySem.Value.ref (91 : Nat)), (@PySem.Value.bool Bool.true), (@PySem.Value.int (181 : Int) (0 : Nat)), (@PySem.Value.ref (92 : Nat)), PySem.Value.none, (@PySem.Value.ref (93 : Nat)), (@PySem.Value.ref (94 : Nat)), (@PySem.Value.ref (95 : Nat)), (@PySem.Value.int (309 : Int) (0 : Nat)), (@PySem.Value.int (77 : Int) (0 : Nat)), (@PySem.Value.str (@PySem.Str.ofString "/claim/cut.py") (310 : Nat))]) #[])) ::
  (nat_lit 97, (@PySem.Obj.mk (@PySem.Value.type "function") none (@PySem.Data.func (@PySem.FuncData.mk (@PySem.Str.ofString "__iter__") (@PySem.Str.ofString "filterfalse.__iter__") ?P5_2 (@PySem.FuncBody.stmts ?B5_2) ?S5_2 (3 : Nat) [] PySem.Value.none PySem.Value.none PySem.Value.none (@PySem.Value.str (@PySem.Str.ofString "itertools") (194 : Nat)) none (@PySem.Value.ref (96 : Nat)) PySem.Value.none (0 : Nat))) #[])) ::
  (nat_lit 98, (@PySem.Obj.mk (@PySem.Value.type "tuple") none (@PySem.Data.seq #[] (0 : Nat)) #[])) ::
  (nat_lit 100, (@PySem.Obj.mk (@PySem.Value.type "tuple") none (@PySem.Data.seq #[(@PySem.Value.str (@PySem.Str.ofString "self") (315 : Nat)), (@PySem.Value.str (@PySem.Str.ofString "func") (316 : Nat)), (@PySem.Value.str (@PySem.Str.ofString "item") (317 : Nat))] (0 : Nat)) #[])) ::
  (nat_lit 101, (@PySem.Obj.mk (@PySem.Value.type "tuple") none (@PySem.Data.seq #[] (0 : Nat)) #[])) ::
  (nat_lit 103, (@PySem.Obj.mk (@PySem.Value.type "code") none (@PySem.Data.fields #[(@PySem.Value.str (@PySem.Str.ofString "__next__") (312 : Nat)), (@PySem.Value.str (@PySem.Str.ofString "filterfalse.__next__") (313 : Nat)), (@PySem.Value.str (@PySem.Str.ofString "/claim/cut.py") (314 : Nat)), (@PySem.Value.int (80 : Int) (0 : Nat)), (@PySem.Value.int (1 : Int) (0 : Nat)), (@PySem.Value.int (0 : Int) (0 : Nat)), (@PySem.Value.int (0 : Int) (0 : Nat)), (@PySem.Value.int (3 : Int) (0 : Nat)), (@PySem.Value.ref (98 : Nat)), (@PySem.Value.bool Bool.true), (@PySem.Value.int (181 : Int) (0 : Nat)), (@PySem.Value.ref (99 : Nat)), PySem.Value.none, (@PySem.Value.ref (100 : Nat)), (@PySem.Value.ref (101 : Nat)), (@PySem.Value.ref (102 : Nat)), (@PySem.Value.int (318 : Int) (0 : Nat)), (@PySem.Value.int (80 : Int) (0 : Nat)), (@PySem.Value.str (@PySem.Str.ofString "/claim/cut.py") (319 : Nat))]) #[])) ::
  (nat_lit 104, (@PySem.Obj.mk (@PySem.Value.type "function") none (@PySem.Data.func (@PySem.FuncData.mk (@PySem.Str.ofString "__next__") (@PySem.Str.ofString "filterfalse.__next__") ?P5_3 (@PySem.FuncBody.stmts ?B5_3) ?S5_3 (3 : Nat) [] PySem.Value.none PySem.Value.none PySem.Value.none (@PySem.Value.str (@PySem.Str.ofString "itertools") (194 : Nat)) none (@PySem.Value.ref (103 : Nat)) PySem.Value.none (0 : Nat))) #[])) ::
  (nat_lit 105, (@PySem.Obj.mk (@PySem.Value.type "tuple") none (@PySem.Data.seq #[(@PySem.Value.str (@PySem.Str.ofString "_func") (321 : Nat)), (@PySem.Value.str (@PySem.Str.ofString "_it") (322 : Nat))] (0 : Nat)) #[])) ::
  (nat_lit 107, (@PySem.Obj.mk (@PySem.Value.type "dict") none (@PySem.Data.dict #[(@PySem.DictEntry.mk (@PySem.PyData.keyHash P (@PySem.Str.ofString "__module__")) (@PySem.Value.str (@PySem.Str.ofString "__module__") (288 : Nat)) (@PySem.Value.str (@PySem.Str.ofString "itertools") (194 : Nat))), (@PySem.DictEntry.mk (@PySem.PyData.keyHash P (@PySem.Str.ofString "__firstlineno__")) (@PySem.Value.str (@PySem.Str.ofString "__firstlineno__") (292 : Nat)) (@PySem.Value.int (70 : Int) (291 : Nat))), (@PySem.DictEntry.mk (@PySem.PyData.keyHash P (@PySem.Str.ofString "__slots__")) (@PySem.Value.str (@PySem.Str.ofString "__slots__") (295 : Nat)) (@PySem.Value.ref (83 : Nat))), (@PySem.DictEntry.mk (@PySem.PyData.keyHash P (@PySem.Str.ofString "__init__")) (@PySem.Value.str (@PySem.Str.ofString "__init__") (304 : Nat)) (@PySem.Value.ref (90 : Nat))), (@PySem.DictEntry.mk (@PySem.PyData.keyHash P (@PySem.Str.ofString "__iter__")) (@PySem.Value.str (@PySem.Str.ofString "__iter__") (311 : Nat)) (@PySem.Value.ref (97 : Nat))), (@PySem.DictEntry.mk (@PySem.PyData.keyHash P (@PySem.Str.ofString "__next__")) (@PySem.Value.str (@PySem.Str.ofString "__next__") (320 : Nat)) (@PySem.Value.ref (104 : Nat))), (@PySem.DictEntry.mk (@PySem.PyData.keyHash P (@PySem.Str.ofString "__static_attributes__")) (@PySem.Value.str (@PySem.Str.ofString "__static_attributes__") (323 : Nat)) (@PySem.Value.ref (105 : Nat))), (@PySem.DictEntry.mk (@PySem.PyData.keyHash P (@PySem.Str.ofString "_func")) (@PySem.Value.str (@PySem.Str.ofString "_func") (325 : Nat)) (@PySem.Value.ref (109 : Nat))), (@PySem.DictEntry.mk (@PySem.PyData.keyHash P (@PySem.Str.ofString "_it")) (@PySem.Value.str (@PySem.Str.ofString "_it") (327 : Nat)) (@PySem.Value.ref (110 : Nat))), (@PySem.DictEntry.mk (@PySem.PyData.keyHash P (@PySem.Str.ofString "__doc__")) (@PySem.Value.str (@PySem.Str.ofString "__doc__") (328 : Nat)) PySem.Value.none)] (4 : Nat)) #[])) ::
  (nat_lit 108, (@PySem.Obj.mk (@PySem.Value.type "type") none (@PySem.Data.cls (@PySem.ClassData.mk (@PySem.Str.ofString "filterfalse") [(@PySem.Value.type "object")] [(@PySem.Value.ref (108 : Nat)), (@PySem.Value.type "object")] (107 : Nat) (@PySem.Str.ofString "filterfalse") Bool.false [(@PySem.Str.ofString "_func"), (@PySem.Str.ofString "_it")] [] Bool.false none Bool.false)) #[none, none, (some (@PySem.Value.str (@PySem.Str.ofString "filterfalse") (281 : Nat))), (some (@PySem.Value.str (@PySem.Str.ofString "filterfalse") (289 : Nat))), (some (@PySem.Value.builtin "object.__new__")), (some (@PySem.Value.bool Bool.false))])) ::
  (nat_lit 109, (@PySem.Obj.mk (@PySem.Value.type "member_descriptor") none (@PySem.Data.fields #[(@PySem.Value.str (@PySem.Str.ofString "_func") (324 : Nat)), (@PySem.Value.ref (108 : Nat)), (@PySem.Value.builtin "proto.slot"), (@PySem.Value.builtin "proto.slot#set"), (@PySem.Value.int (1 : Int) (0 : Nat))]) #[])) ::
  (nat_lit 110, (@PySem.Obj.mk (@PySem.Value.type "member_descriptor") none (@PySem.Data.fields #[(@PySem.Value.str (@PySem.Str.ofString "_it") (326 : Nat)), (@PySem.Value.ref (108 : Nat)), (@PySem.Value.builtin "proto.slot"), (@PySem.Value.builtin "proto.slot#set"), (@PySem.Value.int (0 : Int) (0 : Nat))]) #[])) ::
  (nat_lit 113, (@PySem.Obj.mk (@PySem.Value.type "tuple") none (@PySem.Data.seq #[] (0 : Nat)) #[])) ::
  (nat_lit 115, (@PySem.Obj.mk (@PySem.Value.type "tuple") none (@PySem.Data.seq #[(@PySem.Value.str (@PySem.Str.ofString "path") (336 : Nat))] (0 : Nat)) #[])) ::
  (nat_lit 116, (@PySem.Obj.mk (@PySem.Value.type "tuple") none (@PySem.Data.seq #[] (0 : Nat)) #[])) ::
  (nat_lit 118, (@PySem.Obj.mk (@PySem.Value.type "code") none (@PySem.Data.fields #[(@PySem.Value.str (@PySem.Str.ofString "_parents") (333 : Nat)), (@PySem.Value.str (@PySem.Str.ofString "_parents") (334 : Nat)), (@PySem.Value.str (@PySem.Str.ofString "/claim/cut.py") (335 : Nat)), (@PySem.Value.int (90 : Int) (0 : Nat)), (@PySem.Value.int (1 : Int) (0 : Nat)), (@PySem.Value.int (0 : Int) (0 : Nat)), (@PySem.Value.int (0 : Int) (0 : Nat)), (@PySem.Value.int (3 : Int) (0 : Nat)), (@PySem.Value.ref (113 : Nat)), (@PySem.Value.bool Bool.true), (@PySem.Value.int (181 : Int) (0 : Nat)), (@PySem.Value.ref (114 : Nat)), PySem.Value.none, (@PySem.Value.ref (115 : Nat)), (@PySem.Value.ref (116 : Nat)), (@PySem.Value.ref (117 : Nat)), (@PySem.Value.int (337 : Int) (0 : Nat)), (@PySem.Value.int (90 : Int) (0 : Nat)), (@PySem.Value.str (@PySem.Str.ofString "/claim/cut.py") (338 : Nat))]) #[])) ::
  (nat_lit 119, (@PySem.Obj.mk (@PySem.Value.type "function") none (@PySem.Data.func (@PySem.FuncData.mk (@PySem.Str.ofString "_parents") (@PySem.Str.ofString "_parents") ?P7 (@PySem.FuncBody.stmts ?B7) ?S7 (3 : Nat) [] PySem.Value.none PySem.Value.none PySem.Value.none (@PySem.Value.str (@PySem.Str.ofString "cpy313.zipfile._path") (331 : Nat)) none (@PySem.Value.ref (118 : Nat)) PySem.Value.none (0 : Nat))) #[])) ::
  (nat_lit 120, (@PySem.Obj.mk (@PySem.Value.type "tuple") none (@PySem.Data.seq #[] (0 : Nat)) #[])) ::
  (nat_lit 122, (@PySem.Obj.mk (@PySem.Value.type "tuple") none (@PySem.Data.seq #[(@PySem.Value.str (@PySem.Str.ofString "name") (347 : Nat)), (@PySem.Value.str (@PySem.Str.ofString "x") (348 : Nat)), (@PySem.Value.str (@PySem.Str.ofString "t") (349 : Nat))] (0 : Nat)) #[])) ::
  (nat_lit 123, (@PySem.Obj.mk (@PySem.Value.type "tuple") none (@PySem.Data.seq #[] (0 : Nat)) #[])) ::
  (nat_lit 125, (@PySem.Obj.mk (@PySem.Value.type "code") none (@PySem.Data.fields #[(@PySem.Value.str (@PySem.Str.ofString "_kind") (344 : Nat)), (@PySem.Value.str (@PySem.Str.ofString "_kind") (345 : Nat)), (@PySem.Value.str (@PySem.Str.ofString "/claim/cut.py") (346 : Nat)), (@PySem.Value.int (94 : Int) (0 : Nat)), (@PySem.Value.int (2 : Int) (0 : Nat)), (@PySem.Value.int (0 : Int) (0 : Nat)), (@PySem.Value.int (0 : Int) (0 : Nat)), (@PySem.Value.int (3 : Int) (0 : Nat)), (@PySem.Value.ref (120 : Nat)), (@PySem.Value.bool Bool.true), (@PySem.Value.int (181 : Int) (0 : Nat)), (@PySem.Value.ref (121 : Nat)), PySem.Value.none, (@PySem.Value.ref (122 : Nat)), (@PySem.Value.ref (123 : Nat)), (@PySem.Value.ref (124 : Nat)), (@PySem.Value.int (350 : Int) (0 : Nat)), (@PySem.Value.int (94 : Int) (0 : Nat)), (@PySem.Value.str (@PySem.Str.ofString "/claim/cut.py") (351 : Nat))]) #[])) ::
  (nat_lit 126, (@PySem.Obj.mk (@PySem.Value.type "function") none (@PySem.Data.func (@PySem.FuncData.mk (@PySem.Str.ofString "_kind") (@PySem.Str.ofString "_kind") ?P10 (@PySem.FuncBody.stmts ?B10) ?S10 (3 : Nat) [] PySem.Value.none PySem.Value.none PySem.Value.none (@PySem.Value.str (@PySem.Str.ofString "posixpath") (340 : Nat)) none (@PySem.Value.ref (125 : Nat)) PySem.Value.none (0 : Nat))) #[])) ::
  (nat_lit 127, (@PySem.Obj.mk (@PySem.Value.type "tuple") none (@PySem.Data.seq #[] (0 : Nat)) #[])) ::
  (nat_lit 129, (@PySem.Obj.mk (@PySem.Value.type "tuple") none (@PySem.Data.seq #[(@PySem.Value.str (@PySem.Str.ofString "name") (356 : Nat)), (@PySem.Value.str (@PySem.Str.ofString "x") (357 : Nat)), (@PySem.Value.str (@PySem.Str.ofString "k") (358 : Nat))] (0 : Nat)) #[])) ::
  (nat_lit 130, (@PySem.Obj.mk (@PySem.Value.type "tuple") none (@PySem.Data.seq #[] (0 : Nat)) #[])) ::
  (nat_lit 132, (@PySem.Obj.mk (@PySem.Value.type "code") none (@PySem.Data.fields #[(@PySem.Value.str (@PySem.Str.ofString "_fspath") (353 : Nat)), (@PySem.Value.str (@PySem.Str.ofString "_fspath") (354 : Nat)), (@PySem.Value.str (@PySem.Str.ofString "/claim/cut.py") (355 : Nat)), (@PySem.Value.int (115 : Int) (0 : Nat)), (@PySem.Value.int (2 : Int) (0 : Nat)), (@PySem.Value.int (0 : Int) (0 : Nat)), (@PySem.Value.int (0 : Int) (0 : Nat)), (@PySem.Value.int (3 : Int) (0 : Nat)), (@PySem.Value.ref (127 : Nat)), (@PySem.Value.bool Bool.true), (@PySem.Value.int (181 : Int) (0 : Nat)), (@PySem.Value.ref (128 : Nat)), PySem.Value.none, (@PySem.Value.ref (129 : Nat)), (@PySem.Value.ref (130 : Nat)), (@PySem.Value.ref (131 : Nat)), (@PySem.Value.int (359 : Int) (0 : Nat)), (@PySem.Value.int (115 : Int) (0 : Nat)), (@PySem.Value.str (@PySem.Str.ofString "/claim/cut.py") (360 : Nat))]) #[])) ::
  (nat_lit 133, (@PySem.Obj.mk (@PySem.Value.type "function") none (@PySem.Data.func (@PySem.FuncData.mk (@PySem.Str.ofString "_fspath") (@PySem.Str.ofString "_fspath") ?P11 (@PySem.FuncBody.stmts ?B11) ?S11 (3 : Nat) [] PySem.Value.none PySem.Value.none PySem.Value.none (@PySem.Value.str (@PySem.Str.ofString "posixpath") (340 : Nat)) none (@PySem.Value.ref (132 : Nat)) PySem.Value.none (0 : Nat))) #[])) ::
  (nat_lit 134, (@PySem.Obj.mk (@PySem.Value.type "tuple") none (@PySem.Data.seq #[] (0 : Nat)) #[])) ::
  (nat_lit 136, (@PySem.Obj.mk (@PySem.Value.type "tuple") none (@PySem.Data.seq #[(@PySem.Value.str (@PySem.Str.ofString "p") (365 : Nat)), (@PySem.Value.str (@PySem.Str.ofString "sep") (366 : Nat)), (@PySem.Value.str (@PySem.Str.ofString "i") (367 : Nat)), (@PySem.Value.str (@PySem.Str.ofString "head") (368 : Nat)), (@PySem.Value.str (@PySem.Str.ofString "tail") (369 : Nat))] (0 : Nat)) #[])) ::
  (nat_lit 137, (@PySem.Obj.mk (@PySem.Value.type "tuple") none (@PySem.Data.seq #[] (0 : Nat)) #[])) ::
  (nat_lit 139, (@PySem.Obj.mk (@PySem.Value.type "code") none (@PySem.Data.fields #[(@PySem.Value.str (@PySem.Str.ofString "split") (362 : Nat)), (@PySem.Value.str (@PySem.Str.ofString "split") (363 : Nat)), (@PySem.Value.str (@PySem.Str.ofString "/claim/cut.py") (364 : Nat)), (@PySem.Value.int (120 : Int) (0 : Nat)), (@PySem.Value.int (1 : Int) (0 : Nat)), (@PySem.Value.int (0 : Int) (0 : Nat)), (@PySem.Value.int (0 : Int) (0 : Nat)), (@PySem.Value.int (3 : Int) (0 : Nat)), (@PySem.Value.ref (134 : Nat)), (@PySem.Value.bool Bool.true), (@PySem.Value.int (181 : Int) (0 : Nat)), (@PySem.Value.ref (135 : Nat)), PySem.Value.none, (@PySem.Value.ref (136 : Nat)), (@PySem.Value.ref (137 : Nat)), (@PySem.Value.ref (138 : Nat)), (@PySem.Value.int (370 : Int) (0 : Nat)), (@PySem.Value.int (120 : Int) (0 : Nat)), (@PySem.Value.str (@PySem.Str.ofString "/claim/cut.py") (371 : Nat))]) #[])) ::
  (nat_lit 140, (@PySem.Obj.mk (@PySem.Value.type "function") none (@PySem.Data.func (@PySem.FuncData.mk (@PySem.Str.ofString "split") (@PySem.Str.ofString "split") ?P12 (@PySem.FuncBody.stmts ?B12) ?S12 (3 : Nat) [] PySem.Value.none PySem.Value.none PySem.Value.none (@PySem.Value.str (@PySem.Str.ofString "posixpath") (340 : Nat)) none (@PySem.Value.ref (139 : Nat)) PySem.Value.none (0 : Nat))) #[])) ::
  (nat_lit 141, (@PySem.Obj.mk (@PySem.Value.type "tuple") none (@PySem.Data.seq #[] (0 : Nat)) #[])) ::
  (nat_lit 143, (@PySem.Obj.mk (@PySem.Value.type "tuple") none (@PySem.Data.seq #[(@PySem.Value.str (@PySem.Str.ofString "path") (378 : Nat)), (@PySem.Value.str (@PySem.Str.ofString "tail") (379 : Nat))] (0 : Nat)) #[])) ::
  (nat_lit 144, (@PySem.Obj.mk (@PySem.Value.type "tuple") none (@PySem.Data.seq #[] (0 : Nat)) #[])) ::
  (nat_lit 146, (@PySem.Obj.mk (@PySem.Value.type "code") none (@PySem.Data.fields #[(@PySem.Value.str (@PySem.Str.ofString "_ancestry") (375 : Nat)), (@PySem.Value.str (@PySem.Str.ofString "_ancestry") (376 : Nat)), (@PySem.Value.str (@PySem.Str.ofString "/claim/cut.py") (377 : Nat)), (@PySem.Value.int (129 : Int) (0 : Nat)), (@PySem.Value.int (1 : Int) (0 : Nat)), (@PySem.Value.int (0 : Int) (0 : Nat)), (@PySem.Value.int (0 : Int) (0 : Nat)), (@PySem.Value.int (35 : Int) (0 : Nat)), (@PySem.Value.ref (141 : Nat)), (@PySem.Value.bool Bool.true), (@PySem.Value.int (181 : Int) (0 : Nat)), (@PySem.Value.ref (142 : Nat)), PySem.Value.none, (@PySem.Value.ref (143 : Nat)), (@PySem.Value.ref (144 : Nat)), (@PySem.Value.ref (145 : Nat)), (@PySem.Value.int (380 : Int) (0 : Nat)), (@PySem.Value.int (129 : Int) (0 : Nat)), (@PySem.Value.str (@PySem.Str.ofString "/claim/cut.py") (381 : Nat))]) #[])) ::
  (nat_lit 147, (@PySem.Obj.mk (@PySem.Value.type "function") none (@PySem.Data.func (@PySem.FuncData.mk (@PySem.Str.ofString "_ancestry") (@PySem.Str.ofString "_ancestry") ?P14 (@PySem.FuncBody.stmts ?B14) ?S14 (3 : Nat) [] PySem.Value.none PySem.Value.none PySem.Value.none (@PySem.Value.str (@PySem.Str.ofString "cpy313.zipfile._path") (373 : Nat)) none (@PySem.Value.ref (146 : Nat)) PySem.Value.none (0 : Nat))) #[])) ::
  (nat_lit 148, (@PySem.Obj.mk (@PySem.Value.type "tuple") none (@PySem.Data.seq #[] (0 : Nat)) #[])) ::
  (nat_lit 150, (@PySem.Obj.mk (@PySem.Value.type "tuple") none (@PySem.Data.seq #[(@PySem.Value.str (@PySem.Str.ofString "minuend") (386 : Nat)), (@PySem.Value.str (@PySem.Str.ofString "subtrahend") (387 : Nat))] (0 : Nat)) #[])) ::
  (nat_lit 151, (@PySem.Obj.mk (@PySem.Value.type "tuple") none (@PySem.Data.seq #[] (0 : Nat)) #[])) ::
  (nat_lit 153, (@PySem.Obj.mk (@PySem.Value.type "code") none (@PySem.Data.fields #[(@PySem.Value.str (@PySem.Str.ofString "_difference") (383 : Nat)), (@PySem.Value.str (@PySem.Str.ofString "_difference") (384 : Nat)), (@PySem.Value.str (@PySem.Str.ofString "/claim/cut.py") (385 : Nat)), (@PySem.Value.int (134 : Int) (0 : Nat)), (@PySem.Value.int (2 : Int) (0 : Nat)), (@PySem.Value.int (0 : Int) (0 : Nat)), (@PySem.Value.int (0 : Int) (0 : Nat)), (@PySem.Value.int (3 : Int) (0 : Nat)), (@PySem.Value.ref (148 : Nat)), (@PySem.Value.bool Bool.true), (@PySem.Value.int (181 : Int) (0 : Nat)), (@PySem.Value.ref (149 : Nat)), PySem.Value.none, (@PySem.Value.ref (150 : Nat)), (@PySem.Value.ref (151 : Nat)), (@PySem.Value.ref (152 : Nat)), (@PySem.Value.int (388 : Int) (0 : Nat)), (@PySem.Value.int (134 : Int) (0 : Nat)), (@PySem.Value.str (@PySem.Str.ofString "/claim/cut.py") (389 : Nat))]) #[])) ::
  (nat_lit 154, (@PySem.Obj.mk (@PySem.Value.type "function") none (@PySem.Data.func (@PySem.FuncData.mk (@PySem.Str.ofString "_difference") (@PySem.Str.ofString "_difference") ?P15 (@PySem.FuncBody.stmts ?B15) ?S15 (3 : Nat) [] PySem.Value.none PySem.Value.none PySem.Value.none (@PySem.Value.str (@PySem.Str.ofString "cpy313.zipfile._path") (373 : Nat)) none (@PySem.Value.ref (153 : Nat)) PySem.Value.none (0 : Nat))) #[])) ::
  (nat_lit 155, (@PySem.Obj.mk (@PySem.Value.type "tuple") none (@PySem.Data.seq #[] (0 : Nat)) #[])) ::
  (nat_lit 157, (@PySem.Obj.mk (@PySem.Value.type "tuple") none (@PySem.Data.seq #[(@PySem.Value.str (@PySem.Str.ofString "c") (396 : Nat))] (0 : Nat)) #[])) ::
  (nat_lit 158, (@PySem.Obj.mk (@PySem.Value.type "tuple") none (@PySem.Data.seq #[] (0 : Nat)) #[])) ::
  (nat_lit 160, (@PySem.Obj.mk (@PySem.Value.type "code") none (@PySem.Data.fields #[(@PySem.Value.str (@PySem.Str.ofString "_ctoi") (393 : Nat)), (@PySem.Value.str (@PySem.Str.ofString "_ctoi") (394 : Nat)), (@PySem.Value.str (@PySem.Str.ofString "/claim/cut.py") (395 : Nat)), (@PySem.Value.int (137 : Int) (0 : Nat)), (@PySem.Value.int (1 : Int) (0 : Nat)), (@PySem.Value.int (0 : Int) (0 : Nat)), (@PySem.Value.int (0 : Int) (0 : Nat)), (@PySem.Value.int (3 : Int) (0 : Nat)), (@PySem.Value.ref (155 : Nat)), (@PySem.Value.bool Bool.true), (@PySem.Value.int (181 : Int) (0 : Nat)), (@PySem.Value.ref (156 : Nat)), PySem.Value.none, (@PySem.Value.ref (157 : Nat)), (@PySem.Value.ref (158 : Nat)), (@PySem.Value.ref (159 : Nat)), (@PySem.Value.int (397 : Int) (0 : Nat)), (@PySem.Value.int (137 : Int) (0 : Nat)), (@PySem.Value.str (@PySem.Str.ofString "/claim/cut.py") (398 : Nat))]) #[])) ::
  (nat_lit 161, (@PySem.Obj.mk (@PySem.Value.type "function") none (@PySem.Data.func (@PySem.FuncData.mk (@PySem.Str.ofString "_ctoi") (@PySem.Str.ofString "_ctoi") ?P17 (@PySem.FuncBody.stmts ?B17) ?S17 (3 : Nat) [] PySem.Value.none PySem.Value.none PySem.Value.none (@PySem.Value.str (@PySem.Str.ofString "cpy313.curses.ascii") (391 : Nat)) none (@PySem.Value.ref (160 : Nat)) PySem.Value.none (0 : Nat))) #[])) ::
  (nat_lit 162, (@PySem.Obj.mk (@PySem.Value.type "tuple") none (@PySem.Data.seq #[] (0 : Nat)) #[])) ::
  (nat_lit 164, (@PySem.Obj.mk (@PySem.Value.type "tuple") none (@PySem.Data.seq #[(@PySem.Value.str (@PySem.Str.ofString "c") (403 : Nat))] (0 : Nat)) #[])) ::
  (nat_lit 165, (@PySem.Obj.mk (@PySem.Value.type "tuple") none (@PySem.Data.seq #[] (0 : Nat)) #[])) ::
  (nat_lit 167, (@PySem.Obj.mk (@PySem.Value.type "code") none (@PySem.Data.fields #[(@PySem.Value.str (@PySem.Str.ofString "isprint") (400 : Nat)), (@PySem.Value.str (@PySem.Str.ofString "isprint") (401 : Nat)), (@PySem.Value.str (@PySem.Str.ofString "/claim/cut.py") (402 : Nat)), (@PySem.Value.int (142 : Int) (0 : Nat)), (@PySem.Value.int (1 : Int) (0 : Nat)), (@PySem.Value.int (0 : Int) (0 : Nat)), (@PySem.Value.int (0 : Int) (0 : Nat)), (@PySem.Value.int (3 : Int) (0 : Nat)), (@PySem.Value.ref (162 : Nat)), (@PySem.Value.bool Bool.true), (@PySem.Value.int (181 : Int) (0 : Nat)), (@PySem.Value.ref (163 : Nat)), PySem.Value.none, (@PySem.Value.ref (164 : Nat)), (@PySem.Value.ref (165 : Nat)), (@PySem.Value.ref (166 : Nat)), (@PySem.Value.int (404 : Int) (0 : Nat)), (@PySem.Value.int (142 : Int) (0 : Nat)), (@PySem.Value.str (@PySem.Str.ofString "/claim/cut.py") (405 : Nat))]) #[])) ::
  (nat_lit 168, (@PySem.Obj.mk (@PySem.Value.type "function") none (@PySem.Data.func (@PySem.FuncData.mk (@PySem.Str.ofString "isprint") (@PySem.Str.ofString "isprint") ?P18 (@PySem.FuncBody.stmts ?B18) ?S18 (3 : Nat) [] PySem.Value.none PySem.Value.none PySem.Value.none (@PySem.Value.str (@PySem.Str.ofString "cpy313.curses.ascii") (391 : Nat)) none (@PySem.Value.ref (167 : Nat)) PySem.Value.none (0 : Nat))) #[])) ::
  (nat_lit 169, (@PySem.Obj.mk (@PySem.Value.type "tuple") none (@PySem.Data.seq #[] (0 : Nat)) #[])) ::
  (nat_lit 171, (@PySem.Obj.mk (@PySem.Value.type "tuple") none (@PySem.Data.seq #[(@PySem.Value.str (@PySem.Str.ofString "c") (410 : Nat))] (0 : Nat)) #[])) ::
  (nat_lit 172, (@PySem.Obj.mk (@PySem.Value.type "tuple") none (@PySem.Data.seq #[] (0 : Nat)) #[])) ::
  (nat_lit 174, (@PySem.Obj.mk (@PySem.Value.type "code") none (@PySem.Data.fields #[(@PySem.Value.str (@PySem.Str.ofString "ctrl") (407 : Nat)), (@PySem.Value.str (@PySem.Str.ofString "ctrl") (408 : Nat)), (@PySem.Value.str (@PySem.Str.ofString "/claim/cut.py") (409 : Nat)), (@PySem.Value.int (144 : Int) (0 : Nat)), (@PySem.Value.int (1 : Int) (0 : Nat)), (@PySem.Value.int (0 : Int) (0 : Nat)), (@PySem.Value.int (0 : Int) (0 : Nat)), (@PySem.Value.int (3 : Int) (0 : Nat)), (@PySem.Value.ref (169 : Nat)), (@PySem.Value.bool Bool.true), (@PySem.Value.int (181 : Int) (0 : Nat)), (@PySem.Value.ref (170 : Nat)), PySem.Value.none, (@PySem.Value.ref (171 : Nat)), (@PySem.Value.ref (172 : Nat)), (@PySem.Value.ref (173 : Nat)), (@PySem.Value.int (411 : Int) (0 : Nat)), (@PySem.Value.int (144 : Int) (0 : Nat)), (@PySem.Value.str (@PySem.Str.ofString "/claim/cut.py") (412 : Nat))]) #[])) ::
  (nat_lit 175, (@PySem.Obj.mk (@PySem.Value.type "function") none (@PySem.Data.func (@PySem.FuncData.mk (@PySem.Str.ofString "ctrl") (@PySem.Str.ofString "ctrl") ?P19 (@PySem.FuncBody.stmts ?B19) ?S20 (3 : Nat) [] PySem.Value.none PySem.Value.none PySem.Value.none (@PySem.Value.str (@PySem.Str.ofString "cpy313.curses.ascii") (391 : Nat)) none (@PySem.Value.ref (174 : Nat)) PySem.Value.none (0 : Nat))) #[])) ::
  (nat_lit 176, (@PySem.Obj.mk (@PySem.Value.type "tuple") none (@PySem.Data.seq #[] (0 : Nat)) #[])) ::
  (nat_lit 178, (@PySem.Obj.mk (@PySem.Value.type "tuple") none (@PySem.Data.seq #[(@PySem.Value.str (@PySem.Str.ofString "c") (417 : Nat))] (0 : Nat)) #[])) ::
  (nat_lit 179, (@PySem.Obj.mk (@PySem.Value.type "tuple") none (@PySem.Data.seq #[] (0 : Nat)) #[])) ::
  (nat_lit 181, (@PySem.Obj.mk (@PySem.Value.type "code") none (@PySem.Data.fields #[(@PySem.Value.str (@PySem.Str.ofString "alt") (414 : Nat)), (@PySem.Value.str (@PySem.Str.ofString "alt") (415 : Nat)), (@PySem.Value.str (@PySem.Str.ofString "/claim/cut.py") (416 : Nat)), (@PySem.Value.int (149 : Int) (0 : Nat)), (@PySem.Value.int (1 : Int) (0 : Nat)), (@PySem.Value.int (0 : Int) (0 : Nat)), (@PySem.Value.int (0 : Int) (0 : Nat)), (@PySem.Value.int (3 : Int) (0 : Nat)), (@PySem.Value.ref (176 : Nat)), (@PySem.Value.bool Bool.true), (@PySem.Value.int (181 : Int) (0 : Nat)), (@PySem.Value.ref (177 : Nat)), PySem.Value.none, (@PySem.Value.ref (178 : Nat)), (@PySem.Value.ref (179 : Nat)), (@PySem.Value.ref (180 : Nat)), (@PySem.Value.int (418 : Int) (0 : Nat)), (@PySem.Value.int (149 : Int) (0 : Nat)), (@PySem.Value.str (@PySem.Str.ofString "/claim/cut.py") (419 : Nat))]) #[])) ::
  (nat_lit 182, (@PySem.Obj.mk (@PySem.Value.type "function") none (@PySem.Data.func (@PySem.FuncData.mk (@PySem.Str.ofString "alt") (@PySem.Str.ofString "alt") ?P20 (@PySem.FuncBody.stmts ?B20) ?S20 (3 : Nat) [] PySem.Value.none PySem.Value.none PySem.Value.none (@PySem.Value.str (@PySem.Str.ofString "cpy313.curses.ascii") (391 : Nat)) none (@PySem.Value.ref (181 : Nat)) PySem.Value.none (0 : Nat))) #[])) ::
  (nat_lit 183, (@PySem.Obj.mk (@PySem.Value.type "tuple") none (@PySem.Data.seq #[] (0 : Nat)) #[])) ::
  (nat_lit 185, (@PySem.Obj.mk (@PySem.Value.type "tuple") none (@PySem.Data.seq #[(@PySem.Value.str (@PySem.Str.ofString "c") (424 : Nat)), (@PySem.Value.str (@PySem.Str.ofString "bits") (425 : Nat)), (@PySem.Value.str (@PySem.Str.ofString "rep") (426 : Nat))] (0 : Nat)) #[])) ::
  (nat_lit 186, (@PySem.Obj.mk (@PySem.Value.type "tuple") none (@PySem.Data.seq #[] (0 : Nat)) #[])) ::
  (nat_lit 188, (@PySem.Obj.mk (@PySem.Value.type "code") none (@PySem.Data.fields #[(@PySem.Value.str (@PySem.Str.ofString "unctrl") (421 : Nat)), (@PySem.Value.str (@PySem.Str.ofString "unctrl") (422 : Nat)), (@PySem.Value.str (@PySem.Str.ofString "/claim/cut.py") (423 : Nat)), (@PySem.Value.int (154 : Int) (0 : Nat)), (@PySem.Value.int (1 : Int) (0 : Nat)), (@PySem.Value.int (0 : Int) (0 : Nat)), (@PySem.Value.int (0 : Int) (0 : Nat)), (@PySem.Value.int (3 : Int) (0 : Nat)), (@PySem.Value.ref (183 : Nat)), (@PySem.Value.bool Bool.true), (@PySem.Value.int (181 : Int) (0 : Nat)), (@PySem.Value.ref (184 : Nat)), PySem.Value.none, (@PySem.Value.ref (185 : Nat)), (@PySem.Value.ref (186 : Nat)), (@PySem.Value.ref (187 : Nat)), (@PySem.Value.int (427 : Int) (0 : Nat)), (@PySem.Value.int (154 : Int) (0 : Nat)), (@PySem.Value.str (@PySem.Str.ofString "/claim/cut.py") (428 : Nat))]) #[])) ::
  (nat_lit 189, (@PySem.Obj.mk (@PySem.Value.type "function") none (@PySem.Data.func (@PySem.FuncData.mk (@PySem.Str.ofString "unctrl") (@PySem.Str.ofString "unctrl") ?P21 (@PySem.FuncBody.stmts ?B21) ?S21 (3 : Nat) [] PySem.Value.none PySem.Value.none PySem.Value.none (@PySem.Value.str (@PySem.Str.ofString "cpy313.curses.ascii") (391 : Nat)) none (@PySem.Value.ref (188 : Nat)) PySem.Value.none (0 : Nat))) #[])) ::
  (nat_lit 190, (@PySem.Obj.mk (@PySem.Value.type "tuple") none (@PySem.Data.seq #[] (0 : Nat)) #[])) ::
  (nat_lit 192, (@PySem.Obj.mk (@PySem.Value.type "tuple") none (@PySem.Data.seq #[(@PySem.Value.str (@PySem.Str.ofString "script") (435 : Nat)), (@PySem.Value.str (@PySem.Str.ofString "rows") (436 : Nat)), (@PySem.Value.str (@PySem.Str.ofString "number") (437 : Nat)), (@PySem.Value.str (@PySem.Str.ofString "thing") (438 : Nat))] (0 : Nat)) #[])) ::
  (nat_lit 193, (@PySem.Obj.mk (@PySem.Value.type "tuple") none (@PySem.Data.seq #[] (0 : Nat)) #[])) ::
  (nat_lit 195, (@PySem.Obj.mk (@PySem.Value.type "code") none (@PySem.Data.fields #[(@PySem.Value.str (@PySem.Str.ofString "_law_rows") (432 : Nat)), (@PySem.Value.str (@PySem.Str.ofString "_law_rows") (433 : Nat)), (@PySem.Value.str (@PySem.Str.ofString "/claim/cut.py") (434 : Nat)), (@PySem.Value.int (166 : Int) (0 : Nat)), (@PySem.Value.int (1 : Int) (0 : Nat)), (@PySem.Value.int (0 : Int) (0 : Nat)), (@PySem.Value.int (0 : Int) (0 : Nat)), (@PySem.Value.int (3 : Int) (0 : Nat)), (@PySem.Value.ref (190 : Nat)), (@PySem.Value.bool Bool.true), (@PySem.Value.int (181 : Int) (0 : Nat)), (@PySem.Value.ref (191 : Nat)), PySem.Value.none, (@PySem.Value.ref (192 : Nat)), (@PySem.Value.ref (193 : Nat)), (@PySem.Value.ref (194 : Nat)), (@PySem.Value.int (439 : Int) (0 : Nat)), (@PySem.Value.int (166 : Int) (0 : Nat)), (@PySem.Value.str (@PySem.Str.ofString "/claim/cut.py") (440 : Nat))]) #[])) ::
  (nat_lit 196, (@PySem.Obj.mk (@PySem.Value.type "function") none (@PySem.Data.func (@PySem.FuncData.mk (@PySem.Str.ofString "_law_rows") (@PySem.Str.ofString "_law_rows") ?P23 (@PySem.FuncBody.stmts ?B23) ?S23 (3 : Nat) [] PySem.Value.none PySem.Value.none PySem.Value.none (@PySem.Value.str (@PySem.Str.ofString "law_ij0156_01") (430 : Nat)) none (@PySem.Value.ref (195 : Nat)) PySem.Value.none (0 : Nat))) #[])) ::
  (nat_lit 197, (@PySem.Obj.mk (@PySem.Value.type "tuple") none (@PySem.Data.seq #[] (0 : Nat)) #[])) ::
  (nat_lit 199, (@PySem.Obj.mk (@PySem.Value.type "tuple") none (@PySem.Data.seq #[(@PySem.Value.str (@PySem.Str.ofString "row") (445 : Nat)), (@PySem.Value.str (@PySem.Str.ofString "text") (446 : Nat)), (@PySem.Value.str (@PySem.Str.ofString "thing") (447 : Nat)), (@PySem.Value.str (@PySem.Str.ofString "code") (448 : Nat))] (0 : Nat)) #[])) ::
  (nat_lit 200, (@PySem.Obj.mk (@PySem.Value.type "tuple") none (@PySem.Data.seq #[] (0 : Nat)) #[])) ::
  (nat_lit 202, (@PySem.Obj.mk (@PySem.Value.type "code") none (@PySem.Data.fields #[(@PySem.Value.str (@PySem.Str.ofString "_law_octets") (442 : Nat)), (@PySem.Value.str (@PySem.Str.ofString "_law_octets") (443 : Nat)), (@PySem.Value.str (@PySem.Str.ofString "/claim/cut.py") (444 : Nat)), (@PySem.Value.int (180 : Int) (0 : Nat)), (@PySem.Value.int (1 : Int) (0 : Nat)), (@PySem.Value.int (0 : Int) (0 : Nat)), (@PySem.Value.int (0 : Int) (0 : Nat)), (@PySem.Value.int (3 : Int) (0 : Nat)), (@PySem.Value.ref (197 : Nat)), (@PySem.Value.bool Bool.true), (@PySem.Value.int (181 : Int) (0 : Nat)), (@PySem.Value.ref (198 : Nat)), PySem.Value.none, (@PySem.Value.ref (199 : Nat)), (@PySem.Value.ref (200 : Nat)), (@PySem.Value.ref (201 : Nat)), (@PySem.Value.int (449 : Int) (0 : Nat)), (@PySem.Value.int (180 : Int) (0 : Nat)), (@PySem.Value.str (@PySem.Str.ofString "/claim/cut.py") (450 : Nat))]) #[])) ::
  (nat_lit 203, (@PySem.Obj.mk (@PySem.Value.type "function") none (@PySem.Data.func (@PySem.FuncData.mk (@PySem.Str.ofString "_law_octets") (@PySem.Str.ofString "_law_octets") ?P24 (@PySem.FuncBody.stmts ?B24) ?S24 (3 : Nat) [] PySem.Value.none PySem.Value.none PySem.Value.none (@PySem.Value.str (@PySem.Str.ofString "law_ij0156_01") (430 : Nat)) none (@PySem.Value.ref (202 : Nat)) PySem.Value.none (0 : Nat))) #[])) ::
  (nat_lit 204, (@PySem.Obj.mk (@PySem.Value.type "tuple") none (@PySem.Data.seq #[] (0 : Nat)) #[])) ::
  (nat_lit 206, (@PySem.Obj.mk (@PySem.Value.type "tuple") none (@PySem.Data.seq #[(@PySem.Value.str (@PySem.Str.ofString "word") (455 : Nat))] (0 : Nat)) #[])) ::
  (nat_lit 207, (@PySem.Obj.mk (@PySem.Value.type "tuple") none (@PySem.Data.seq #[] (0 : Nat)) #[])) ::
  (nat_lit 209, (@PySem.Obj.mk (@PySem.Value.type "code") none (@PySem.Data.fields #[(@PySem.Value.str (@PySem.Str.ofString "_law_sign") (452 : Nat)), (@PySem.Value.str (@PySem.Str.ofString "_law_sign") (453 : Nat)), (@PySem.Value.str (@PySem.Str.ofString "/claim/cut.py") (454 : Nat)), (@PySem.Value.int (189 : Int) (0 : Nat)), (@PySem.Value.int (1 : Int) (0 : Nat)), (@PySem.Value.int (0 : Int) (0 : Nat)), (@PySem.Value.int (0 : Int) (0 : Nat)), (@PySem.Value.int (3 : Int) (0 : Nat)), (@PySem.Value.ref (204 : Nat)), (@PySem.Value.bool Bool.true), (@PySem.Value.int (181 : Int) (0 : Nat)), (@PySem.Value.ref (205 : Nat)), PySem.Value.none, (@PySem.Value.ref (206 : Nat)), (@PySem.Value.ref (207 : Nat)), (@PySem.Value.ref (208 : Nat)), (@PySem.Value.int (456 : Int) (0 : Nat)), (@PySem.Value.int (189 : Int) (0 : Nat)), (@PySem.Value.str (@PySem.Str.ofString "/claim/cut.py") (457 : Nat))]) #[])) ::
  (nat_lit 210, (@PySem.Obj.mk (@PySem.Value.type "function") none (@PySem.Data.func (@PySem.FuncData.mk (@PySem.Str.ofString "_law_sign") (@PySem.Str.ofString "_law_sign") ?P25 (@PySem.FuncBody.stmts ?B25) ?S25 (3 : Nat) [] PySem.Value.none PySem.Value.none PySem.Value.none (@PySem.Value.str (@PySem.Str.ofString "law_ij0156_01") (430 : Nat)) none (@PySem.Value.ref (209 : Nat)) PySem.Value.none (0 : Nat))) #[])) ::
  (nat_lit 211, (@PySem.Obj.mk (@PySem.Value.type "tuple") none (@PySem.Data.seq #[] (0 : Nat)) #[])) ::
  (nat_lit 214, (@PySem.Obj.mk (@PySem.Value.type "code") none (@PySem.Data.fields #[(@PySem.Value.str (@PySem.Str.ofString "_law_read") (459 : Nat)), (@PySem.Value.str (@PySem.Str.ofString "_law_read") (460 : Nat)), (@PySem.Value.str (@PySem.Str.ofString "/claim/cut.py") (461 : Nat)), (@PySem.Value.int (197 : Int) (0 : Nat)), (@PySem.Value.int (1 : Int) (0 : Nat)), (@PySem.Value.int (0 : Int) (0 : Nat)), (@PySem.Value.int (0 : Int) (0 : Nat)), (@PySem.Value.int (3 : Int) (0 : Nat)), (@PySem.Value.ref (211 : Nat)), (@PySem.Value.bool Bool.true), (@PySem.Value.int (181 : Int) (0 : Nat)), (@PySem.Value.ref (212 : Nat)), PySem.Value.none, PySem.Value.none, PySem.Value.none, (@PySem.Value.ref (213 : Nat)), (@PySem.Value.int (462 : Int) (0 : Nat)), (@PySem.Value.int (197 : Int) (0 : Nat)), (@PySem.Value.str (@PySem.Str.ofString "/claim/cut.py") (463 : Nat))]) #[])) ::
  (nat_lit 215, (@PySem.Obj.mk (@PySem.Value.type "function") none (@PySem.Data.func (@PySem.FuncData.mk (@PySem.Str.ofString "_law_read") (@PySem.Str.ofString "_law_read") ?P26 (@PySem.FuncBody.stmts ?B26) ?S26 (3 : Nat) [] PySem.Value.none PySem.Value.none PySem.Value.none (@PySem.Value.str (@PySem.Str.ofString "law_ij0156_01") (430 : Nat)) none (@PySem.Value.ref (214 : Nat)) PySem.Value.none (0 : Nat))) #[])) ::
  (nat_lit 216, (@PySem.Obj.mk (@PySem.Value.type "tuple") none (@PySem.Data.seq #[] (0 : Nat)) #[])) ::
  (nat_lit 219, (@PySem.Obj.mk (@PySem.Value.type "code") none (@PySem.Data.fields #[(@PySem.Value.str (@PySem.Str.ofString "law") (465 : Nat)), (@PySem.Value.str (@PySem.Str.ofString "law") (466 : Nat)), (@PySem.Value.str (@PySem.Str.ofString "/claim/cut.py") (467 : Nat)), (@PySem.Value.int (199 : Int) (0 : Nat)), (@PySem.Value.int (1 : Int) (0 : Nat)), (@PySem.Value.int (0 : Int) (0 : Nat)), (@PySem.Value.int (0 : Int) (0 : Nat)), (@PySem.Value.int (3 : Int) (0 : Nat)), (@PySem.Value.ref (216 : Nat)), (@PySem.Value.bool Bool.true), (@PySem.Value.int (181 : Int) (0 : Nat)), (@PySem.Value.ref (217 : Nat)), PySem.Value.none, PySem.Value.none, PySem.Value.none, (@PySem.Value.ref (218 : Nat)), (@PySem.Value.int (468 : Int) (0 : Nat)), (@PySem.Value.int (199 : Int) (0 : Nat)), (@PySem.Value.str (@PySem.Str.ofString "/claim/cut.py") (469 : Nat))]) #[])) ::
  (nat_lit 220, (@PySem.Obj.mk (@PySem.Value.type "function") none (@PySem.Data.func (@PySem.FuncData.mk (@PySem.Str.ofString "law") (@PySem.Str.ofString "law") ?P27 (@PySem.FuncBody.stmts ?B27) ?S27 (3 : Nat) [] PySem.Value.none PySem.Value.none PySem.Value.none (@PySem.Value.str (@PySem.Str.ofString "law_ij0156_01") (430 : Nat)) none (@PySem.Value.ref (219 : Nat)) PySem.Value.none (0 : Nat))) #[])) :: [] : Params → Frag)) (by dsimp only [sHd, sTl, fP, fB, fS, cB, pwBody, PySem.Challenge.pw_ij0156_01]; exact rfl)
abbrev hookAt : List Addr := [2, 3, 15, 17, 18, 20, 21, 22, 24, 25, 27, 28, 29, 31, 32, 34, 35, 43, 44, 46, 47, 49, 50, 51, 53, 54, 56, 57, 58, 60, 61, 63, 64, 65, 67, 68, 69, 70, 71, 72, 73, 83, 84, 86, 87, 89, 90, 91, 93, 94, 96, 97, 98, 100, 101, 103, 104, 105, 107, 108, 109, 110, 113, 115, 116, 118, 119, 120, 122, 123, 125, 126, 127, 129, 130, 132, 133, 134, 136, 137, 139, 140, 141, 143, 144, 146, 147, 148, 150, 151, 153, 154, 155, 157, 158, 160, 161, 162, 164, 165, 167, 168, 169, 171, 172, 174, 175, 176, 178, 179, 181, 182, 183, 185, 186, 188, 189, 190, 192, 193, 195, 196, 197, 199, 200, 202, 203, 204, 206, 207, 209, 210, 211, 214, 215, 216, 219, 220]
theorem hook_at : ∀ P, hookAt = (hd.heap_39 P).map (·.1) := fun _ => by kernel_rfl
noncomputable abbrev hook : Hook := kHook hd.heap_39 hookAt hook_at
abbrev loose0 : List Str := [Str.ofString "islice", Str.ofString "filterfalse"]
namespace Lf
/-! the top in pieces: five runs of statements, each checked by itself; then the looks at the heap behind it -/
noncomputable def nO' : List Obj → Nat → Obj
  | a :: _, 0 => a
  | _ :: l, n + 1 => nO' l n
  | [], _ => default
noncomputable def nO : List (Addr × Obj) → Nat → Obj
  | p :: _, 0 => p.2
  | _ :: l, n + 1 => nO l n
  | [], _ => default
abbrev PW : Program := PySem.Challenge.pw_ij0156_01
noncomputable def obs (P : Params) : List Obj :=
  (@PySem.Obj.mk (@PySem.Value.type "dict") none (@PySem.Data.dict #[(@PySem.DictEntry.mk (@PySem.PyData.keyHash P (@PySem.Str.ofString "__name__")) (@PySem.Value.str (@PySem.Str.ofString "__name__") (1 : Nat)) (@PySem.Value.str (@PySem.Str.ofString "builtins") (160 : Nat))), (@PySem.DictEntry.mk (@PySem.PyData.keyHash P (@PySem.Str.ofString "__doc__")) (@PySem.Value.str (@PySem.Str.ofString "__doc__") (2 : Nat)) (@PySem.Value.builtin "builtins.__doc__:str#opaque")), (@PySem.DictEntry.mk (@PySem.PyData.keyHash P (@PySem.Str.ofString "__package__")) (@PySem.Value.str (@PySem.Str.ofString "__package__") (3 : Nat)) (@PySem.Value.builtin "builtins.__package__:str#opaque")), (@PySem.DictEntry.mk (@PySem.PyData.keyHash P (@PySem.Str.ofString "__loader__")) (@PySem.Value.str (@PySem.Str.ofString "__loader__") (4 : Nat)) (@PySem.Value.builtin "builtins.__loader__:shared#opaque")), (@PySem.DictEntry.mk (@PySem.PyData.keyHash P (@PySem.Str.ofString "__spec__")) (@PySem.Value.str (@PySem.Str.ofString "__spec__") (5 : Nat)) (@PySem.Value.builtin "builtins.__spec__#opaque")), (@PySem.DictEntry.mk (@PySem.PyData.keyHash P (@PySem.Str.ofString "__build_class__")) (@PySem.Value.str (@PySem.Str.ofString "__build_class__") (6 : Nat)) (@PySem.Value.builtin "__build_class__")), (@PySem.DictEntry.mk (@PySem.PyData.keyHash P (@PySem.Str.ofString "__import__")) (@PySem.Value.str (@PySem.Str.ofString "__import__") (7 : Nat)) (@PySem.Value.builtin "__import__")), (@PySem.DictEntry.mk (@PySem.PyData.keyHash P (@PySem.Str.ofString "abs")) (@PySem.Value.str (@PySem.Str.ofString "abs") (8 : Nat)) (@PySem.Value.builtin "abs")), (@PySem.DictEntry.mk (@PySem.PyData.keyHash P (@PySem.Str.ofString "all")) (@PySem.Value.str (@PySem.Str.ofString "all") (9 : Nat)) (@PySem.Value.builtin "all")), (@PySem.DictEntry.mk (@PySem.PyData.keyHash P (@PySem.Str.ofString "any")) (@PySem.Value.str (@PySem.Str.ofString "any") (10 : Nat)) (@PySem.Value.builtin "any")), (@PySem.DictEntry.mk (@PySem.PyData.keyHash P (@PySem.Str.ofString "ascii")) (@PySem.Value.str (@PySem.Str.ofString "ascii") (11 : Nat)) (@PySem.Value.builtin "ascii")), (@PySem.DictEntry.mk (@PySem.PyData.keyHash P (@PySem.Str.ofString "bin")) (@PySem.Value.str (@PySem.Str.ofString "bin") (12 : Nat)) (@PySem.Value.builtin "bin")), (@PySem.DictEntry.mk (@PySem.PyData.keyHash P (@PySem.Str.ofString "breakpoint")) (@PySem.Value.str (@PySem.Str.ofString "breakpoint") (13 : Nat)) (@PySem.Value.builtin "breakpoint")), (@PySem.DictEntry.mk (@PySem.PyData.keyHash P (@PySem.Str.ofString "callable")) (@PySem.Value.str (@PySem.Str.ofString "callable") (14 : Nat)) (@PySem.Value.builtin "callable")), (@PySem.DictEntry.mk (@PySem.PyData.keyHash P (@PySem.Str.ofString "chr")) (@PySem.Value.str (@PySem.Str.ofString "chr") (15 : Nat)) (@PySem.Value.builtin "chr")), (@PySem.DictEntry.mk (@PySem.PyData.keyHash P (@PySem.Str.ofString "compile")) (@PySem.Value.str (@PySem.Str.ofString "compile") (16 : Nat)) (@PySem.Value.builtin "compile")), (@PySem.DictEntry.mk (@PySem.PyData.keyHash P (@PySem.Str.ofString "delattr")) (@PySem.Value.str (@PySem.Str.ofString "delattr") (17 : Nat)) (@PySem.Value.builtin "delattr")), (@PySem.DictEntry.mk (@PySem.PyData.keyHash P (@PySem.Str.ofString "dir")) (@PySem.Value.str (@PySem.Str.ofString "dir") (18 : Nat)) (@PySem.Value.builtin "dir")), (@PySem.DictEntry.mk (@PySem.PyData.keyHash P (@PySem.Str.ofString "divmod")) (@PySem.Value.str (@PySem.Str.ofString "divmod") (19 : Nat)) (@PySem.Value.builtin "divmod")), (@PySem.DictEntry.mk (@PySem.PyData.keyHash P (@PySem.Str.ofString "eval")) (@PySem.Value.str (@PySem.Str.ofString "eval") (20 : Nat)) (@PySem.Value.builtin "eval")), (@PySem.DictEntry.mk (@PySem.PyData.keyHash P (@PySem.Str.ofString "exec")) (@PySem.Value.str (@PySem.Str.ofString "exec") (21 : Nat)) (@PySem.Value.builtin "exec")), (@PySem.DictEntry.mk (@PySem.PyData.keyHash P (@PySem.Str.ofString "format")) (@PySem.Value.str (@PySem.Str.ofString "format") (22 : Nat)) (@PySem.Value.builtin "format")), (@PySem.DictEntry.mk (@PySem.PyData.keyHash P (@PySem.Str.ofString "getattr")) (@PySem.Value.str (@PySem.Str.ofString "getattr") (23 : Nat)) (@PySem.Value.builtin "getattr")), (@PySem.DictEntry.mk (@PySem.PyData.keyHash P (@PySem.Str.ofString "globals")) (@PySem.Value.str (@PySem.Str.ofString "globals") (24 : Nat)) (@PySem.Value.builtin "globals")), (@PySem.DictEntry.mk (@PySem.PyData.keyHash P (@PySem.Str.ofString "hasattr")) (@PySem.Value.str (@PySem.Str.ofString "hasattr") (25 : Nat)) (@PySem.Value.builtin "hasattr")), (@PySem.DictEntry.mk (@PySem.PyData.keyHash P (@PySem.Str.ofString "hash")) (@PySem.Value.str (@PySem.Str.ofString "hash") (26 : Nat)) (@PySem.Value.builtin "hash")), (@PySem.DictEntry.mk (@PySem.PyData.keyHash P (@PySem.Str.ofString "hex")) (@PySem.Value.str (@PySem.Str.ofString "hex") (27 : Nat)) (@PySem.Value.builtin "hex")), (@PySem.DictEntry.mk (@PySem.PyData.keyHash P (@PySem.Str.ofString "id")) (@PySem.Value.str (@PySem.Str.ofString "id") (28 : Nat)) (@PySem.Value.builtin "id")), (@PySem.DictEntry.mk (@PySem.PyData.keyHash P (@PySem.Str.ofString "input")) (@PySem.Value.str (@PySem.Str.ofString "input") (29 : Nat)) (@PySem.Value.builtin "input")), (@PySem.DictEntry.mk (@PySem.PyData.keyHash P (@PySem.Str.ofString "isinstance")) (@PySem.Value.str (@PySem.Str.ofString "isinstance") (30 : Nat)) (@PySem.Value.builtin "isinstance")), (@PySem.DictEntry.mk (@PySem.PyData.keyHash P (@PySem.Str.ofString "issubclass")) (@PySem.Value.str (@PySem.Str.ofString "issubclass") (31 : Nat)) (@PySem.Value.builtin "issubclass")), (@PySem.DictEntry.mk (@PySem.PyData.keyHash P (@PySem.Str.ofString "iter")) (@PySem.Value.str (@PySem.Str.ofString "iter") (32 : Nat)) (@PySem.Value.builtin "iter")), (@PySem.DictEntry.mk (@PySem.PyData.keyHash P (@PySem.Str.ofString "aiter")) (@PySem.Value.str (@PySem.Str.ofString "aiter") (33 : Nat)) (@PySem.Value.builtin "aiter")), (@PySem.DictEntry.mk (@PySem.PyData.keyHash P (@PySem.Str.ofString "len")) (@PySem.Value.str (@PySem.Str.ofString "len") (34 : Nat)) (@PySem.Value.builtin "len")), (@PySem.DictEntry.mk (@PySem.PyData.keyHash P (@PySem.Str.ofString "locals")) (@PySem.Value.str (@PySem.Str.ofString "locals") (35 : Nat)) (@PySem.Value.builtin "locals")), (@PySem.DictEntry.mk (@PySem.PyData.keyHash P (@PySem.Str.ofString "max")) (@PySem.Value.str (@PySem.Str.ofString "max") (36 : Nat)) (@PySem.Value.builtin "max")), (@PySem.DictEntry.mk (@PySem.PyData.keyHash P (@PySem.Str.ofString "min")) (@PySem.Value.str (@PySem.Str.ofString "min") (37 : Nat)) (@PySem.Value.builtin "min")), (@PySem.DictEntry.mk (@PySem.PyData.keyHash P (@PySem.Str.ofString "next")) (@PySem.Value.str (@PySem.Str.ofString "next") (38 : Nat)) (@PySem.Value.builtin "next")), (@PySem.DictEntry.mk (@PySem.PyData.keyHash P (@PySem.Str.ofString "anext")) (@PySem.Value.str (@PySem.Str.ofString "anext") (39 : Nat)) (@PySem.Value.builtin "anext")), (@PySem.DictEntry.mk (@PySem.PyData.keyHash P (@PySem.Str.ofString "oct")) (@PySem.Value.str (@PySem.Str.ofString "oct") (40 : Nat)) (@PySem.Value.builtin "oct")), (@PySem.DictEntry.mk (@PySem.PyData.keyHash P (@PySem.Str.ofString "ord")) (@PySem.Value.str (@PySem.Str.ofString "ord") (41 : Nat)) (@PySem.Value.builtin "ord")), (@PySem.DictEntry.mk (@PySem.PyData.keyHash P (@PySem.Str.ofString "pow")) (@PySem.Value.str (@PySem.Str.ofString "pow") (42 : Nat)) (@PySem.Value.builtin "pow")), (@PySem.DictEntry.mk (@PySem.PyData.keyHash P (@PySem.Str.ofString "print")) (@PySem.Value.str (@PySem.Str.ofString "print") (43 : Nat)) (@PySem.Value.builtin "print")), (@PySem.DictEntry.mk (@PySem.PyData.keyHash P (@PySem.Str.ofString "repr")) (@PySem.Value.str (@PySem.Str.ofString "repr") (44 : Nat)) (@PySem.Value.builtin "repr")), (@PySem.DictEntry.mk (@PySem.PyData.keyHash P (@PySem.Str.ofString "round")) (@PySem.Value.str (@PySem.Str.ofString "round") (45 : Nat)) (@PySem.Value.builtin "round")), (@PySem.DictEntry.mk (@PySem.PyData.keyHash P (@PySem.Str.ofString "setattr")) (@PySem.Value.str (@PySem.Str.ofString "setattr") (46 : Nat)) (@PySem.Value.builtin "setattr")), (@PySem.DictEntry.mk (@PySem.PyData.keyHash P (@PySem.Str.ofString "sorted")) (@PySem.Value.str (@PySem.Str.ofString "sorted") (47 : Nat)) (@PySem.Value.builtin "sorted")), (@PySem.DictEntry.mk (@PySem.PyData.keyHash P (@PySem.Str.ofString "sum")) (@PySem.Value.str (@PySem.Str.ofString "sum") (48 : Nat)) (@PySem.Value.builtin "sum")), (@PySem.DictEntry.mk (@PySem.PyData.keyHash P (@PySem.Str.ofString "vars")) (@PySem.Value.str (@PySem.Str.ofString "vars") (49 : Nat)) (@PySem.Value.builtin "vars")), (@PySem.DictEntry.mk (@PySem.PyData.keyHash P (@PySem.Str.ofString "None")) (@PySem.Value.str (@PySem.Str.ofString "None") (50 : Nat)) PySem.Value.none), (@PySem.DictEntry.mk (@PySem.PyData.keyHash P (@PySem.Str.ofString "Ellipsis")) (@PySem.Value.str (@PySem.Str.ofString "Ellipsis") (51 : Nat)) PySem.Value.ellipsis), (@PySem.DictEntry.mk (@PySem.PyData.keyHash P (@PySem.Str.ofString "NotImplemented")) (@PySem.Value.str (@PySem.Str.ofString "NotImplemented") (52 : Nat)) PySem.Value.notImplemented), (@PySem.DictEntry.mk (@PySem.PyData.keyHash P (@PySem.Str.ofString "False")) (@PySem.Value.str (@PySem.Str.ofString "False") (53 : Nat)) (@PySem.Value.bool Bool.false)), (@PySem.DictEntry.mk (@PySem.PyData.keyHash P (@PySem.Str.ofString "True")) (@PySem.Value.str (@PySem.Str.ofString "True") (54 : Nat)) (@PySem.Value.bool Bool.true)), (@PySem.DictEntry.mk (@PySem.PyData.keyHash P (@PySem.Str.ofString "bool")) (@PySem.Value.str (@PySem.Str.ofString "bool") (55 : Nat)) (@PySem.Value.type "bool")), (@PySem.DictEntry.mk (@PySem.PyData.keyHash P (@PySem.Str.ofString "memoryview")) (@PySem.Value.str (@PySem.Str.ofString "memoryview") (56 : Nat)) (@PySem.Value.type "memoryview")), (@PySem.DictEntry.mk (@PySem.PyData.keyHash P (@PySem.Str.ofString "bytearray")) (@PySem.Value.str (@PySem.Str.ofString "bytearray") (57 : Nat)) (@PySem.Value.type "bytearray")), (@PySem.DictEntry.mk (@PySem.PyData.keyHash P (@PySem.Str.ofString "bytes")) (@PySem.Value.str (@PySem.Str.ofString "bytes") (58 : Nat)) (@PySem.Value.type "bytes")), (@PySem.DictEntry.mk (@PySem.PyData.keyHash P (@PySem.Str.ofString "classmethod")) (@PySem.Value.str (@PySem.Str.ofString "classmethod") (59 : Nat)) (@PySem.Value.type "classmethod")), (@PySem.DictEntry.mk (@PySem.PyData.keyHash P (@PySem.Str.ofString "complex")) (@PySem.Value.str (@PySem.Str.ofString "complex") (60 : Nat)) (@PySem.Value.type "complex")), (@PySem.DictEntry.mk (@PySem.PyData.keyHash P (@PySem.Str.ofString "dict")) (@PySem.Value.str (@PySem.Str.ofString "dict") (61 : Nat)) (@PySem.Value.type "dict")), (@PySem.DictEntry.mk (@PySem.PyData.keyHash P (@PySem.Str.ofString "enumerate")) (@PySem.Value.str (@PySem.Str.ofString "enumerate") (62 : Nat)) (@PySem.Value.type "enumerate")), (@PySem.DictEntry.mk (@PySem.PyData.keyHash P (@PySem.Str.ofString "filter")) (@PySem.Value.str (@PySem.Str.ofString "filter") (63 : Nat)) (@PySem.Value.type "filter")), (@PySem.DictEntry.mk (@PySem.PyData.keyHash P (@PySem.Str.ofString "float")) (@PySem.Value.str (@PySem.Str.ofString "float") (64 : Nat)) (@PySem.Value.type "float")), (@PySem.DictEntry.mk (@PySem.PyData.keyHash P (@PySem.Str.ofString "frozenset")) (@PySem.Value.str (@PySem.Str.ofString "frozenset") (65 : Nat)) (@PySem.Value.type "frozenset")), (@PySem.DictEntry.mk (@PySem.PyData.keyHash P (@PySem.Str.ofString "property")) (@PySem.Value.str (@PySem.Str.ofString "property") (66 : Nat)) (@PySem.Value.type "property")), (@PySem.DictEntry.mk (@PySem.PyData.keyHash P (@PySem.Str.ofString "int")) (@PySem.Value.str (@PySem.Str.ofString "int") (67 : Nat)) (@PySem.Value.type "int")), (@PySem.DictEntry.mk (@PySem.PyData.keyHash P (@PySem.Str.ofString "list")) (@PySem.Value.str (@PySem.Str.ofString "list") (68 : Nat)) (@PySem.Value.type "list")), (@PySem.DictEntry.mk (@PySem.PyData.keyHash P (@PySem.Str.ofString "map")) (@PySem.Value.str (@PySem.Str.ofString "map") (69 : Nat)) (@PySem.Value.type "map")), (@PySem.DictEntry.mk (@PySem.PyData.keyHash P (@PySem.Str.ofString "object")) (@PySem.Value.str (@PySem.Str.ofString "object") (70 : Nat)) (@PySem.Value.type "object")), (@PySem.DictEntry.mk (@PySem.PyData.keyHash P (@PySem.Str.ofString "range")) (@PySem.Value.str (@PySem.Str.ofString "range") (71 : Nat)) (@PySem.Value.type "range")), (@PySem.DictEntry.mk (@PySem.PyData.keyHash P (@PySem.Str.ofString "reversed")) (@PySem.Value.str (@PySem.Str.ofString "reversed") (72 : Nat)) (@PySem.Value.type "reversed")), (@PySem.DictEntry.mk (@PySem.PyData.keyHash P (@PySem.Str.ofString "set")) (@PySem.Value.str (@PySem.Str.ofString "set") (73 : Nat)) (@PySem.Value.type "set")), (@PySem.DictEntry.mk (@PySem.PyData.keyHash P (@PySem.Str.ofString "slice")) (@PySem.Value.str (@PySem.Str.ofString "slice") (74 : Nat)) (@PySem.Value.type "slice")), (@PySem.DictEntry.mk (@PySem.PyData.keyHash P (@PySem.Str.ofString "staticmethod")) (@PySem.Value.str (@PySem.Str.ofString "staticmethod") (75 : Nat)) (@PySem.Value.type "staticmethod")), (@PySem.DictEntry.mk (@PySem.PyData.keyHash P (@PySem.Str.ofString "str")) (@PySem.Value.str (@PySem.Str.ofString "str") (76 : Nat)) (@PySem.Value.type "str")), (@PySem.DictEntry.mk (@PySem.PyData.keyHash P (@PySem.Str.ofString "super")) (@PySem.Value.str (@PySem.Str.ofString "super") (77 : Nat)) (@PySem.Value.type "super")), (@PySem.DictEntry.mk (@PySem.PyData.keyHash P (@PySem.Str.ofString "tuple")) (@PySem.Value.str (@PySem.Str.ofString "tuple") (78 : Nat)) (@PySem.Value.type "tuple")), (@PySem.DictEntry.mk (@PySem.PyData.keyHash P (@PySem.Str.ofString "type")) (@PySem.Value.str (@PySem.Str.ofString "type") (79 : Nat)) (@PySem.Value.type "type")), (@PySem.DictEntry.mk (@PySem.PyData.keyHash P (@PySem.Str.ofString "zip")) (@PySem.Value.str (@PySem.Str.ofString "zip") (80 : Nat)) (@PySem.Value.type "zip")), (@PySem.DictEntry.mk (@PySem.PyData.keyHash P (@PySem.Str.ofString "__debug__")) (@PySem.Value.str (@PySem.Str.ofString "__debug__") (81 : Nat)) (@PySem.Value.bool Bool.true)), (@PySem.DictEntry.mk (@PySem.PyData.keyHash P (@PySem.Str.ofString "BaseException")) (@PySem.Value.str (@PySem.Str.ofString "BaseException") (82 : Nat)) (@PySem.Value.type "BaseException")), (@PySem.DictEntry.mk (@PySem.PyData.keyHash P (@PySem.Str.ofString "BaseExceptionGroup")) (@PySem.Value.str (@PySem.Str.ofString "BaseExceptionGroup") (83 : Nat)) (@PySem.Value.type "BaseExceptionGroup")), (@PySem.DictEntry.mk (@PySem.PyData.keyHash P (@PySem.Str.ofString "Exception")) (@PySem.Value.str (@PySem.Str.ofString "Exception") (84 : Nat)) (@PySem.Value.type "Exception")), (@PySem.DictEntry.mk (@PySem.PyData.keyHash P (@PySem.Str.ofString "GeneratorExit")) (@PySem.Value.str (@PySem.Str.ofString "GeneratorExit") (85 : Nat)) (@PySem.Value.type "GeneratorExit")), (@PySem.DictEntry.mk (@PySem.PyData.keyHash P (@PySem.Str.ofString "KeyboardInterrupt")) (@PySem.Value.str (@PySem.Str.ofString "KeyboardInterrupt") (86 : Nat)) (@PySem.Value.type "KeyboardInterrupt")), (@PySem.DictEntry.mk (@PySem.PyData.keyHash P (@PySem.Str.ofString "SystemExit")) (@PySem.Value.str (@PySem.Str.ofString "SystemExit") (87 : Nat)) (@PySem.Value.type "SystemExit")), (@PySem.DictEntry.mk (@PySem.PyData.keyHash P (@PySem.Str.ofString "ArithmeticError")) (@PySem.Value.str (@PySem.Str.ofString "ArithmeticError") (88 : Nat)) (@PySem.Value.type "ArithmeticError")), (@PySem.DictEntry.mk (@PySem.PyData.keyHash P (@PySem.Str.ofString "AssertionError")) (@PySem.Value.str (@PySem.Str.ofString "AssertionError") (89 : Nat)) (@PySem.Value.type "AssertionError")), (@PySem.DictEntry.mk (@PySem.PyData.keyHash P (@PySem.Str.ofString "AttributeError")) (@PySem.Value.str (@PySem.Str.ofString "AttributeError") (90 : Nat)) (@PySem.Value.type "AttributeError")), (@PySem.DictEntry.mk (@PySem.PyData.keyHash P (@PySem.Str.ofString "BufferError")) (@PySem.Value.str (@PySem.Str.ofString "BufferError") (91 : Nat)) (@PySem.Value.type "BufferError")), (@PySem.DictEntry.mk (@PySem.PyData.keyHash P (@PySem.Str.ofString "EOFError")) (@PySem.Value.str (@PySem.Str.ofString "EOFError") (92 : Nat)) (@PySem.Value.type "EOFError")), (@PySem.DictEntry.mk (@PySem.PyData.keyHash P (@PySem.Str.ofString "ImportError")) (@PySem.Value.str (@PySem.Str.ofString "ImportError") (93 : Nat)) (@PySem.Value.type "ImportError")), (@PySem.DictEntry.mk (@PySem.PyData.keyHash P (@PySem.Str.ofString "LookupError")) (@PySem.Value.str (@PySem.Str.ofString "LookupError") (94 : Nat)) (@PySem.Value.type "LookupError")), (@PySem.DictEntry.mk (@PySem.PyData.keyHash P (@PySem.Str.ofString "MemoryError")) (@PySem.Value.str (@PySem.Str.ofString "MemoryError") (95 : Nat)) (@PySem.Value.type "MemoryError")), (@PySem.DictEntry.mk (@PySem.PyData.keyHash P (@PySem.Str.ofString "NameError")) (@PySem.Value.str (@PySem.Str.ofString "NameError") (96 : Nat)) (@PySem.Value.type "NameError")), (@PySem.DictEntry.mk (@PySem.PyData.keyHash P (@PySem.Str.ofString "OSError")) (@PySem.Value.str (@PySem.Str.ofString "OSError") (97 : Nat)) (@PySem.Value.type "OSError")), (@PySem.DictEntry.mk (@PySem.PyData.keyHash P (@PySem.Str.ofString "ReferenceError")) (@PySem.Value.str (@PySem.Str.ofString "ReferenceError") (98 : Nat)) (@PySem.Value.type "ReferenceError")), (@PySem.DictEntry.mk (@PySem.PyData.keyHash P (@PySem.Str.ofString "RuntimeError")) (@PySem.Value.str (@PySem.Str.ofString "RuntimeError") (99 : Nat)) (@PySem.Value.type "RuntimeError")), (@PySem.DictEntry.mk (@PySem.PyData.keyHash P (@PySem.Str.ofString "StopAsyncIteration")) (@PySem.Value.str (@PySem.Str.ofString "StopAsyncIteration") (100 : Nat)) (@PySem.Value.type "StopAsyncIteration")), (@PySem.DictEntry.mk (@PySem.PyData.keyHash P (@PySem.Str.ofString "StopIteration")) (@PySem.Value.str (@PySem.Str.ofString "StopIteration") (101 : Nat)) (@PySem.Value.type "StopIteration")), (@PySem.DictEntry.mk (@PySem.PyData.keyHash P (@PySem.Str.ofString "SyntaxError")) (@PySem.Value.str (@PySem.Str.ofString "SyntaxError") (102 : Nat)) (@PySem.Value.type "SyntaxError")), (@PySem.DictEntry.mk (@PySem.PyData.keyHash P (@PySem.Str.ofString "SystemError")) (@PySem.Value.str (@PySem.Str.ofString "SystemError") (103 : Nat)) (@PySem.Value.type "SystemError")), (@PySem.DictEntry.mk (@PySem.PyData.keyHash P (@PySem.Str.ofString "TypeError")) (@PySem.Value.str (@PySem.Str.ofString "TypeError") (104 : Nat)) (@PySem.Value.type "TypeError")), (@PySem.DictEntry.mk (@PySem.PyData.keyHash P (@PySem.Str.ofString "ValueError")) (@PySem.Value.str (@PySem.Str.ofString "ValueError") (105 : Nat)) (@PySem.Value.type "ValueError")), (@PySem.DictEntry.mk (@PySem.PyData.keyHash P (@PySem.Str.ofString "Warning")) (@PySem.Value.str (@PySem.Str.ofString "Warning") (106 : Nat)) (@PySem.Value.type "Warning")), (@PySem.DictEntry.mk (@PySem.PyData.keyHash P (@PySem.Str.ofString "FloatingPointError")) (@PySem.Value.str (@PySem.Str.ofString "FloatingPointError") (107 : Nat)) (@PySem.Value.type "FloatingPointError")), (@PySem.DictEntry.mk (@PySem.PyData.keyHash P (@PySem.Str.ofString "OverflowError")) (@PySem.Value.str (@PySem.Str.ofString "OverflowError") (108 : Nat)) (@PySem.Value.type "OverflowError")), (@PySem.DictEntry.mk (@PySem.PyData.keyHash P (@PySem.Str.ofString "ZeroDivisionError")) (@PySem.Value.str (@PySem.Str.ofString "ZeroDivisionError") (109 : Nat)) (@PySem.Value.type "ZeroDivisionError")), (@PySem.DictEntry.mk (@PySem.PyData.keyHash P (@PySem.Str.ofString "BytesWarning")) (@PySem.Value.str (@PySem.Str.ofString "BytesWarning") (110 : Nat)) (@PySem.Value.type "BytesWarning")), (@PySem.DictEntry.mk (@PySem.PyData.keyHash P (@PySem.Str.ofString "DeprecationWarning")) (@PySem.Value.str (@PySem.Str.ofString "DeprecationWarning") (111 : Nat)) (@PySem.Value.type "DeprecationWarning")), (@PySem.DictEntry.mk (@PySem.PyData.keyHash P (@PySem.Str.ofString "EncodingWarning")) (@PySem.Value.str (@PySem.Str.ofString "EncodingWarning") (112 : Nat)) (@PySem.Value.type "EncodingWarning")), (@PySem.DictEntry.mk (@PySem.PyData.keyHash P (@PySem.Str.ofString "FutureWarning")) (@PySem.Value.str (@PySem.Str.ofString "FutureWarning") (113 : Nat)) (@PySem.Value.type "FutureWarning")), (@PySem.DictEntry.mk (@PySem.PyData.keyHash P (@PySem.Str.ofString "ImportWarning")) (@PySem.Value.str (@PySem.Str.ofString "ImportWarning") (114 : Nat)) (@PySem.Value.type "ImportWarning")), (@PySem.DictEntry.mk (@PySem.PyData.keyHash P (@PySem.Str.ofString "PendingDeprecationWarning")) (@PySem.Value.str (@PySem.Str.ofString "PendingDeprecationWarning") (115 : Nat)) (@PySem.Value.type "PendingDeprecationWarning")), (@PySem.DictEntry.mk (@PySem.PyData.keyHash P (@PySem.Str.ofString "ResourceWarning")) (@PySem.Value.str (@PySem.Str.ofString "ResourceWarning") (116 : Nat)) (@PySem.Value.type "ResourceWarning")), (@PySem.DictEntry.mk (@PySem.PyData.keyHash P (@PySem.Str.ofString "RuntimeWarning")) (@PySem.Value.str (@PySem.Str.ofString "RuntimeWarning") (117 : Nat)) (@PySem.Value.type "RuntimeWarning")), (@PySem.DictEntry.mk (@PySem.PyData.keyHash P (@PySem.Str.ofString "SyntaxWarning")) (@PySem.Value.str (@PySem.Str.ofString "SyntaxWarning") (118 : Nat)) (@PySem.Value.type "SyntaxWarning")), (@PySem.DictEntry.mk (@PySem.PyData.keyHash P (@PySem.Str.ofString "UnicodeWarning")) (@PySem.Value.str (@PySem.Str.ofString "UnicodeWarning") (119 : Nat)) (@PySem.Value.type "UnicodeWarning")), (@PySem.DictEntry.mk (@PySem.PyData.keyHash P (@PySem.Str.ofString "UserWarning")) (@PySem.Value.str (@PySem.Str.ofString "UserWarning") (120 : Nat)) (@PySem.Value.type "UserWarning")), (@PySem.DictEntry.mk (@PySem.PyData.keyHash P (@PySem.Str.ofString "BlockingIOError")) (@PySem.Value.str (@PySem.Str.ofString "BlockingIOError") (121 : Nat)) (@PySem.Value.type "BlockingIOError")), (@PySem.DictEntry.mk (@PySem.PyData.keyHash P (@PySem.Str.ofString "ChildProcessError")) (@PySem.Value.str (@PySem.Str.ofString "ChildProcessError") (122 : Nat)) (@PySem.Value.type "ChildProcessError")), (@PySem.DictEntry.mk (@PySem.PyData.keyHash P (@PySem.Str.ofString "ConnectionError")) (@PySem.Value.str (@PySem.Str.ofString "ConnectionError") (123 : Nat)) (@PySem.Value.type "ConnectionError")), (@PySem.DictEntry.mk (@PySem.PyData.keyHash P (@PySem.Str.ofString "FileExistsError")) (@PySem.Value.str (@PySem.Str.ofString "FileExistsError") (124 : Nat)) (@PySem.Value.type "FileExistsError")), (@PySem.DictEntry.mk (@PySem.PyData.keyHash P (@PySem.Str.ofString "FileNotFoundError")) (@PySem.Value.str (@PySem.Str.ofString "FileNotFoundError") (125 : Nat)) (@PySem.Value.type "FileNotFoundError")), (@PySem.DictEntry.mk (@PySem.PyData.keyHash P (@PySem.Str.ofString "InterruptedError")) (@PySem.Value.str (@PySem.Str.ofString "InterruptedError") (126 : Nat)) (@PySem.Value.type "InterruptedError")), (@PySem.DictEntry.mk (@PySem.PyData.keyHash P (@PySem.Str.ofString "IsADirectoryError")) (@PySem.Value.str (@PySem.Str.ofString "IsADirectoryError") (127 : Nat)) (@PySem.Value.type "IsADirectoryError")), (@PySem.DictEntry.mk (@PySem.PyData.keyHash P (@PySem.Str.ofString "NotADirectoryError")) (@PySem.Value.str (@PySem.Str.ofString "NotADirectoryError") (128 : Nat)) (@PySem.Value.type "NotADirectoryError")), (@PySem.DictEntry.mk (@PySem.PyData.keyHash P (@PySem.Str.ofString "PermissionError")) (@PySem.Value.str (@PySem.Str.ofString "PermissionError") (129 : Nat)) (@PySem.Value.type "PermissionError")), (@PySem.DictEntry.mk (@PySem.PyData.keyHash P (@PySem.Str.ofString "ProcessLookupError")) (@PySem.Value.str (@PySem.Str.ofString "ProcessLookupError") (130 : Nat)) (@PySem.Value.type "ProcessLookupError")), (@PySem.DictEntry.mk (@PySem.PyData.keyHash P (@PySem.Str.ofString "TimeoutError")) (@PySem.Value.str (@PySem.Str.ofString "TimeoutError") (131 : Nat)) (@PySem.Value.type "TimeoutError")), (@PySem.DictEntry.mk (@PySem.PyData.keyHash P (@PySem.Str.ofString "IndentationError")) (@PySem.Value.str (@PySem.Str.ofString "IndentationError") (132 : Nat)) (@PySem.Value.type "IndentationError")), (@PySem.DictEntry.mk (@PySem.PyData.keyHash P (@PySem.Str.ofString "_IncompleteInputError")) (@PySem.Value.str (@PySem.Str.ofString "_IncompleteInputError") (133 : Nat)) (@PySem.Value.type "_IncompleteInputError")), (@PySem.DictEntry.mk (@PySem.PyData.keyHash P (@PySem.Str.ofString "IndexError")) (@PySem.Value.str (@PySem.Str.ofString "IndexError") (134 : Nat)) (@PySem.Value.type "IndexError")), (@PySem.DictEntry.mk (@PySem.PyData.keyHash P (@PySem.Str.ofString "KeyError")) (@PySem.Value.str (@PySem.Str.ofString "KeyError") (135 : Nat)) (@PySem.Value.type "KeyError")), (@PySem.DictEntry.mk (@PySem.PyData.keyHash P (@PySem.Str.ofString "ModuleNotFoundError")) (@PySem.Value.str (@PySem.Str.ofString "ModuleNotFoundError") (136 : Nat)) (@PySem.Value.type "ModuleNotFoundError")), (@PySem.DictEntry.mk (@PySem.PyData.keyHash P (@PySem.Str.ofString "NotImplementedError")) (@PySem.Value.str (@PySem.Str.ofString "NotImplementedError") (137 : Nat)) (@PySem.Value.type "NotImplementedError")), (@PySem.DictEntry.mk (@PySem.PyData.keyHash P (@PySem.Str.ofString "PythonFinalizationError")) (@PySem.Value.str (@PySem.Str.ofString "PythonFinalizationError") (138 : Nat)) (@PySem.Value.type "PythonFinalizationError")), (@PySem.DictEntry.mk (@PySem.PyData.keyHash P (@PySem.Str.ofString "RecursionError")) (@PySem.Value.str (@PySem.Str.ofString "RecursionError") (139 : Nat)) (@PySem.Value.type "RecursionError")), (@PySem.DictEntry.mk (@PySem.PyData.keyHash P (@PySem.Str.ofString "UnboundLocalError")) (@PySem.Value.str (@PySem.Str.ofString "UnboundLocalError") (140 : Nat)) (@PySem.Value.type "UnboundLocalError")), (@PySem.DictEntry.mk (@PySem.PyData.keyHash P (@PySem.Str.ofString "UnicodeError")) (@PySem.Value.str (@PySem.Str.ofString "UnicodeError") (141 : Nat)) (@PySem.Value.type "UnicodeError")), (@PySem.DictEntry.mk (@PySem.PyData.keyHash P (@PySem.Str.ofString "BrokenPipeError")) (@PySem.Value.str (@PySem.Str.ofString "BrokenPipeError") (142 : Nat)) (@PySem.Value.type "BrokenPipeError")), (@PySem.DictEntry.mk (@PySem.PyData.keyHash P (@PySem.Str.ofString "ConnectionAbortedError")) (@PySem.Value.str (@PySem.Str.ofString "ConnectionAbortedError") (143 : Nat)) (@PySem.Value.type "ConnectionAbortedError")), (@PySem.DictEntry.mk (@PySem.PyData.keyHash P (@PySem.Str.ofString "ConnectionRefusedError")) (@PySem.Value.str (@PySem.Str.ofString "ConnectionRefusedError") (144 : Nat)) (@PySem.Value.type "ConnectionRefusedError")), (@PySem.DictEntry.mk (@PySem.PyData.keyHash P (@PySem.Str.ofString "ConnectionResetError")) (@PySem.Value.str (@PySem.Str.ofString "ConnectionResetError") (145 : Nat)) (@PySem.Value.type "ConnectionResetError")), (@PySem.DictEntry.mk (@PySem.PyData.keyHash P (@PySem.Str.ofString "TabError")) (@PySem.Value.str (@PySem.Str.ofString "TabError") (146 : Nat)) (@PySem.Value.type "TabError")), (@PySem.DictEntry.mk (@PySem.PyData.keyHash P (@PySem.Str.ofString "UnicodeDecodeError")) (@PySem.Value.str (@PySem.Str.ofString "UnicodeDecodeError") (147 : Nat)) (@PySem.Value.type "UnicodeDecodeError")), (@PySem.DictEntry.mk (@PySem.PyData.keyHash P (@PySem.Str.ofString "UnicodeEncodeError")) (@PySem.Value.str (@PySem.Str.ofString "UnicodeEncodeError") (148 : Nat)) (@PySem.Value.type "UnicodeEncodeError")), (@PySem.DictEntry.mk (@PySem.PyData.keyHash P (@PySem.Str.ofString "UnicodeTranslateError")) (@PySem.Value.str (@PySem.Str.ofString "UnicodeTranslateError") (149 : Nat)) (@PySem.Value.type "UnicodeTranslateError")), (@PySem.DictEntry.mk (@PySem.PyData.keyHash P (@PySem.Str.ofString "ExceptionGroup")) (@PySem.Value.str (@PySem.Str.ofString "ExceptionGroup") (150 : Nat)) (@PySem.Value.type "ExceptionGroup")), (@PySem.DictEntry.mk (@PySem.PyData.keyHash P (@PySem.Str.ofString "EnvironmentError")) (@PySem.Value.str (@PySem.Str.ofString "EnvironmentError") (151 : Nat)) (@PySem.Value.type "OSError")), (@PySem.DictEntry.mk (@PySem.PyData.keyHash P (@PySem.Str.ofString "IOError")) (@PySem.Value.str (@PySem.Str.ofString "IOError") (152 : Nat)) (@PySem.Value.type "OSError")), (@PySem.DictEntry.mk (@PySem.PyData.keyHash P (@PySem.Str.ofString "open")) (@PySem.Value.str (@PySem.Str.ofString "open") (153 : Nat)) (@PySem.Value.builtin "open")), (@PySem.DictEntry.mk (@PySem.PyData.keyHash P (@PySem.Str.ofString "quit")) (@PySem.Value.str (@PySem.Str.ofString "quit") (154 : Nat)) (@PySem.Value.builtin "builtins.quit#opaque")), (@PySem.DictEntry.mk (@PySem.PyData.keyHash P (@PySem.Str.ofString "exit")) (@PySem.Value.str (@PySem.Str.ofString "exit") (155 : Nat)) (@PySem.Value.builtin "builtins.exit#opaque")), (@PySem.DictEntry.mk (@PySem.PyData.keyHash P (@PySem.Str.ofString "copyright")) (@PySem.Value.str (@PySem.Str.ofString "copyright") (156 : Nat)) (@PySem.Value.builtin "builtins.copyright#opaque")), (@PySem.DictEntry.mk (@PySem.PyData.keyHash P (@PySem.Str.ofString "credits")) (@PySem.Value.str (@PySem.Str.ofString "credits") (157 : Nat)) (@PySem.Value.builtin "builtins.credits#opaque")), (@PySem.DictEntry.mk (@PySem.PyData.keyHash P (@PySem.Str.ofString "license")) (@PySem.Value.str (@PySem.Str.ofString "license") (158 : Nat)) (@PySem.Value.builtin "builtins.license#opaque")), (@PySem.DictEntry.mk (@PySem.PyData.keyHash P (@PySem.Str.ofString "help")) (@PySem.Value.str (@PySem.Str.ofString "help") (159 : Nat)) (@PySem.Value.builtin "builtins.help#opaque"))] (159 : Nat)) #[]) ::
  (@PySem.Obj.mk (@PySem.Value.type "dict") none (@PySem.Data.dict #[(@PySem.DictEntry.mk (@PySem.PyData.keyHash P (@PySem.Str.ofString "builtins")) (@PySem.Value.str (@PySem.Str.ofString "builtins") (162 : Nat)) (@PySem.Value.ref (4 : Nat))), (@PySem.DictEntry.mk (@PySem.PyData.keyHash P (@PySem.Str.ofString "__main__")) (@PySem.Value.str (@PySem.Str.ofString "__main__") (163 : Nat)) (@PySem.Value.ref (5 : Nat)))] (2 : Nat)) #[]) ::
  (nO (hd.heap_39 P) 0) ::
  (nO (hd.heap_39 P) 1) ::
  (@PySem.Obj.mk (@PySem.Value.type "module") (some (0 : Nat)) PySem.Data.plain #[]) ::
  (@PySem.Obj.mk (@PySem.Value.type "module") (some (3 : Nat)) PySem.Data.plain #[]) ::
  (@PySem.Obj.mk (@PySem.Value.type "dict") none (@PySem.Data.dict #[] (0 : Nat)) #[]) ::
  (@PySem.Obj.mk (@PySem.Value.type "tuple") none (@PySem.Data.seq #[] (0 : Nat)) #[]) ::
  (@PySem.Obj.mk PySem.Value.none none (@PySem.Data.fields #[]) #[]) ::
  (@PySem.Obj.mk (@PySem.Value.type "code") none (@PySem.Data.fields #[(@PySem.Value.str (@PySem.Str.ofString "<module>") (176 : Nat)), (@PySem.Value.str (@PySem.Str.ofString "<module>") (177 : Nat)), (@PySem.Value.str (@PySem.Str.ofString "/claim/cut.py") (178 : Nat)), (@PySem.Value.int (1 : Int) (0 : Nat)), (@PySem.Value.int (0 : Int) (0 : Nat)), (@PySem.Value.int (0 : Int) (0 : Nat)), (@PySem.Value.int (0 : Int) (0 : Nat)), (@PySem.Value.int (0 : Int) (0 : Nat)), (@PySem.Value.ref (7 : Nat)), (@PySem.Value.bool Bool.false), (@PySem.Value.int (175 : Int) (0 : Nat)), (@PySem.Value.ref (8 : Nat)), PySem.Value.none, PySem.Value.none, PySem.Value.none, PySem.Value.none, (@PySem.Value.int (179 : Int) (0 : Nat)), (@PySem.Value.int (1 : Int) (0 : Nat)), (@PySem.Value.str (@PySem.Str.ofString "/claim/cut.py") (180 : Nat))]) #[]) ::
  (@PySem.Obj.mk (@PySem.Value.type "frame") none PySem.Data.plain #[(some (@PySem.Value.ref (9 : Nat))), (some (@PySem.Value.ref (3 : Nat))), (some (@PySem.Value.ref (3 : Nat))), none, (some (@PySem.Value.str (@PySem.Str.ofString "__main__") (164 : Nat))), none, (some (@PySem.Value.ref (0 : Nat)))]) ::
  (@PySem.Obj.mk (@PySem.Value.type "tuple") none (@PySem.Data.seq #[] (0 : Nat)) #[]) ::
  (@PySem.Obj.mk PySem.Value.none none (@PySem.Data.fields #[(@PySem.Value.int (1 : Int) (0 : Nat)), (@PySem.Value.int (0 : Int) (0 : Nat)), (@PySem.Value.ref (20 : Nat)), (@PySem.Value.int (5 : Int) (0 : Nat)), (@PySem.Value.int (0 : Int) (0 : Nat)), (@PySem.Value.ref (27 : Nat)), (@PySem.Value.int (8 : Int) (0 : Nat)), (@PySem.Value.int (0 : Int) (0 : Nat)), (@PySem.Value.ref (34 : Nat)), (@PySem.Value.int (13 : Int) (0 : Nat)), (@PySem.Value.int (0 : Int) (0 : Nat)), (@PySem.Value.ref (41 : Nat)), (@PySem.Value.int (70 : Int) (0 : Nat)), (@PySem.Value.int (0 : Int) (0 : Nat)), (@PySem.Value.ref (81 : Nat)), (@PySem.Value.int (90 : Int) (0 : Nat)), (@PySem.Value.int (0 : Int) (0 : Nat)), (@PySem.Value.ref (118 : Nat)), (@PySem.Value.int (94 : Int) (0 : Nat)), (@PySem.Value.int (0 : Int) (0 : Nat)), (@PySem.Value.ref (125 : Nat)), (@PySem.Value.int (115 : Int) (0 : Nat)), (@PySem.Value.int (0 : Int) (0 : Nat)), (@PySem.Value.ref (132 : Nat)), (@PySem.Value.int (120 : Int) (0 : Nat)), (@PySem.Value.int (0 : Int) (0 : Nat)), (@PySem.Value.ref (139 : Nat)), (@PySem.Value.int (129 : Int) (0 : Nat)), (@PySem.Value.int (0 : Int) (0 : Nat)), (@PySem.Value.ref (146 : Nat)), (@PySem.Value.int (134 : Int) (0 : Nat)), (@PySem.Value.int (0 : Int) (0 : Nat)), (@PySem.Value.ref (153 : Nat)), (@PySem.Value.int (137 : Int) (0 : Nat)), (@PySem.Value.int (0 : Int) (0 : Nat)), (@PySem.Value.ref (160 : Nat)), (@PySem.Value.int (142 : Int) (0 : Nat)), (@PySem.Value.int (0 : Int) (0 : Nat)), (@PySem.Value.ref (167 : Nat)), (@PySem.Value.int (144 : Int) (0 : Nat)), (@PySem.Value.int (0 : Int) (0 : Nat)), (@PySem.Value.ref (174 : Nat)), (@PySem.Value.int (149 : Int) (0 : Nat)), (@PySem.Value.int (0 : Int) (0 : Nat)), (@PySem.Value.ref (181 : Nat)), (@PySem.Value.int (154 : Int) (0 : Nat)), (@PySem.Value.int (0 : Int) (0 : Nat)), (@PySem.Value.ref (188 : Nat)), (@PySem.Value.int (166 : Int) (0 : Nat)), (@PySem.Value.int (0 : Int) (0 : Nat)), (@PySem.Value.ref (195 : Nat)), (@PySem.Value.int (180 : Int) (0 : Nat)), (@PySem.Value.int (0 : Int) (0 : Nat)), (@PySem.Value.ref (202 : Nat)), (@PySem.Value.int (189 : Int) (0 : Nat)), (@PySem.Value.int (0 : Int) (0 : Nat)), (@PySem.Value.ref (209 : Nat)), (@PySem.Value.int (197 : Int) (0 : Nat)), (@PySem.Value.int (0 : Int) (0 : Nat)), (@PySem.Value.ref (214 : Nat)), (@PySem.Value.int (199 : Int) (0 : Nat)), (@PySem.Value.int (0 : Int) (0 : Nat)), (@PySem.Value.ref (219 : Nat))]) #[]) ::
  (@PySem.Obj.mk (@PySem.Value.type "code") none (@PySem.Data.fields #[(@PySem.Value.str (@PySem.Str.ofString "<module>") (182 : Nat)), (@PySem.Value.str (@PySem.Str.ofString "<module>") (183 : Nat)), (@PySem.Value.str (@PySem.Str.ofString "/claim/cut.py") (184 : Nat)), (@PySem.Value.int (1 : Int) (0 : Nat)), (@PySem.Value.int (0 : Int) (0 : Nat)), (@PySem.Value.int (0 : Int) (0 : Nat)), (@PySem.Value.int (0 : Int) (0 : Nat)), (@PySem.Value.int (0 : Int) (0 : Nat)), (@PySem.Value.ref (11 : Nat)), (@PySem.Value.bool Bool.false), (@PySem.Value.int (181 : Int) (0 : Nat)), (@PySem.Value.ref (12 : Nat)), PySem.Value.none, PySem.Value.none, PySem.Value.none, PySem.Value.none, (@PySem.Value.int (185 : Int) (0 : Nat)), (@PySem.Value.int (1 : Int) (0 : Nat)), (@PySem.Value.str (@PySem.Str.ofString "/claim/cut.py") (186 : Nat))]) #[]) ::
  (@PySem.Obj.mk (@PySem.Value.type "frame") none PySem.Data.plain #[(some (@PySem.Value.ref (13 : Nat))), (some (@PySem.Value.ref (3 : Nat))), (some (@PySem.Value.ref (3 : Nat))), none, (some (@PySem.Value.str (@PySem.Str.ofString "__main__") (164 : Nat))), none, (some (@PySem.Value.ref (0 : Nat)))]) ::
  (nO (hd.heap_39 P) 2) ::
  (@PySem.Obj.mk PySem.Value.none none (@PySem.Data.fields #[]) #[]) ::
  (nO (hd.heap_39 P) 3) ::
  (nO (hd.heap_39 P) 4) ::
  (@PySem.Obj.mk PySem.Value.none none (@PySem.Data.func (@PySem.FuncData.mk (@PySem.Str.ofString "_wall") (@PySem.Str.ofString "_wall") (fP (sHd pwBody)) (@PySem.FuncBody.stmts (fB (sHd pwBody))) (fS (sHd pwBody)) (0 : Nat) [] PySem.Value.none PySem.Value.none PySem.Value.none PySem.Value.none none PySem.Value.none PySem.Value.none (0 : Nat))) #[]) ::
  (nO (hd.heap_39 P) 5) ::
  (nO (hd.heap_39 P) 6) ::
  (nO (hd.heap_39 P) 7) ::
  (@PySem.Obj.mk PySem.Value.none none (@PySem.Data.fields #[]) #[]) ::
  (nO (hd.heap_39 P) 8) ::
  (nO (hd.heap_39 P) 9) ::
  (@PySem.Obj.mk PySem.Value.none none (@PySem.Data.func (@PySem.FuncData.mk (@PySem.Str.ofString "_is_int") (@PySem.Str.ofString "_is_int") (fP (sHd (sTl (sTl pwBody)))) (@PySem.FuncBody.stmts (fB (sHd (sTl (sTl pwBody))))) (fS (sHd (sTl (sTl pwBody)))) (0 : Nat) [] PySem.Value.none PySem.Value.none PySem.Value.none PySem.Value.none none PySem.Value.none PySem.Value.none (0 : Nat))) #[]) ::
  (nO (hd.heap_39 P) 10) ::
  (nO (hd.heap_39 P) 11) ::
  (nO (hd.heap_39 P) 12) ::
  (@PySem.Obj.mk PySem.Value.none none (@PySem.Data.fields #[]) #[]) ::
  (nO (hd.heap_39 P) 13) ::
  (nO (hd.heap_39 P) 14) ::
  (@PySem.Obj.mk PySem.Value.none none (@PySem.Data.func (@PySem.FuncData.mk (@PySem.Str.ofString "_whole") (@PySem.Str.ofString "_whole") (fP (sHd (sTl (sTl (sTl pwBody))))) (@PySem.FuncBody.stmts (fB (sHd (sTl (sTl (sTl pwBody)))))) (fS (sHd (sTl (sTl (sTl pwBody))))) (0 : Nat) [] PySem.Value.none PySem.Value.none PySem.Value.none PySem.Value.none none PySem.Value.none PySem.Value.none (0 : Nat))) #[]) ::
  (nO (hd.heap_39 P) 15) ::
  (nO (hd.heap_39 P) 16) ::
  (@PySem.Obj.mk (@PySem.Value.type "tuple") none (@PySem.Data.seq #[] (0 : Nat)) #[]) ::
  (@PySem.Obj.mk (@PySem.Value.type "builtin_function_or_method") none (@PySem.Data.fields #[(@PySem.Value.builtin "type.__prepare__"), (@PySem.Value.type "type")]) #[]) ::
  (@PySem.Obj.mk (@PySem.Value.type "dict") none (@PySem.Data.dict #[(@PySem.DictEntry.mk (@PySem.PyData.keyHash P (@PySem.Str.ofString "__module__")) (@PySem.Value.str (@PySem.Str.ofString "__module__") (220 : Nat)) (@PySem.Value.str (@PySem.Str.ofString "itertools") (194 : Nat))), (@PySem.DictEntry.mk (@PySem.PyData.keyHash P (@PySem.Str.ofString "__qualname__")) (@PySem.Value.str (@PySem.Str.ofString "__qualname__") (222 : Nat)) (@PySem.Value.str (@PySem.Str.ofString "islice") (221 : Nat))), (@PySem.DictEntry.mk (@PySem.PyData.keyHash P (@PySem.Str.ofString "__firstlineno__")) (@PySem.Value.str (@PySem.Str.ofString "__firstlineno__") (224 : Nat)) (@PySem.Value.int (13 : Int) (223 : Nat))), (@PySem.DictEntry.mk (@PySem.PyData.keyHash P (@PySem.Str.ofString "__slots__")) (@PySem.Value.str (@PySem.Str.ofString "__slots__") (230 : Nat)) (@PySem.Value.ref (43 : Nat))), (@PySem.DictEntry.mk (@PySem.PyData.keyHash P (@PySem.Str.ofString "__init__")) (@PySem.Value.str (@PySem.Str.ofString "__init__") (244 : Nat)) (@PySem.Value.ref (50 : Nat))), (@PySem.DictEntry.mk (@PySem.PyData.keyHash P (@PySem.Str.ofString "__iter__")) (@PySem.Value.str (@PySem.Str.ofString "__iter__") (251 : Nat)) (@PySem.Value.ref (57 : Nat))), (@PySem.DictEntry.mk (@PySem.PyData.keyHash P (@PySem.Str.ofString "__next__")) (@PySem.Value.str (@PySem.Str.ofString "__next__") (261 : Nat)) (@PySem.Value.ref (64 : Nat))), (@PySem.DictEntry.mk (@PySem.PyData.keyHash P (@PySem.Str.ofString "__static_attributes__")) (@PySem.Value.str (@PySem.Str.ofString "__static_attributes__") (267 : Nat)) (@PySem.Value.ref (65 : Nat)))] (8 : Nat)) #[]) ::
  (@PySem.Obj.mk (@PySem.Value.type "tuple") none (@PySem.Data.seq #[] (0 : Nat)) #[]) ::
  (@PySem.Obj.mk PySem.Value.none none (@PySem.Data.fields #[(@PySem.Value.int (16 : Int) (0 : Nat)), (@PySem.Value.int (4 : Int) (0 : Nat)), (@PySem.Value.ref (49 : Nat)), (@PySem.Value.int (47 : Int) (0 : Nat)), (@PySem.Value.int (4 : Int) (0 : Nat)), (@PySem.Value.ref (56 : Nat)), (@PySem.Value.int (50 : Int) (0 : Nat)), (@PySem.Value.int (4 : Int) (0 : Nat)), (@PySem.Value.ref (63 : Nat))]) #[]) ::
  (@PySem.Obj.mk (@PySem.Value.type "code") none (@PySem.Data.fields #[(@PySem.Value.str (@PySem.Str.ofString "islice") (215 : Nat)), (@PySem.Value.str (@PySem.Str.ofString "islice") (216 : Nat)), (@PySem.Value.str (@PySem.Str.ofString "/claim/cut.py") (217 : Nat)), (@PySem.Value.int (13 : Int) (0 : Nat)), (@PySem.Value.int (0 : Int) (0 : Nat)), (@PySem.Value.int (0 : Int) (0 : Nat)), (@PySem.Value.int (0 : Int) (0 : Nat)), (@PySem.Value.int (0 : Int) (0 : Nat)), (@PySem.Value.ref (39 : Nat)), (@PySem.Value.bool Bool.false), (@PySem.Value.int (181 : Int) (0 : Nat)), (@PySem.Value.ref (40 : Nat)), PySem.Value.none, PySem.Value.none, PySem.Value.none, PySem.Value.none, (@PySem.Value.int (218 : Int) (0 : Nat)), (@PySem.Value.int (13 : Int) (0 : Nat)), (@PySem.Value.str (@PySem.Str.ofString "/claim/cut.py") (219 : Nat))]) #[]) ::
  (@PySem.Obj.mk (@PySem.Value.type "frame") none PySem.Data.plain #[(some (@PySem.Value.ref (41 : Nat))), (some (@PySem.Value.ref (3 : Nat))), (some (@PySem.Value.ref (38 : Nat))), none, (some (@PySem.Value.str (@PySem.Str.ofString "itertools") (194 : Nat))), none, (some (@PySem.Value.ref (0 : Nat)))]) ::
  (nO (hd.heap_39 P) 17) ::
  (nO (hd.heap_39 P) 18) ::
  (@PySem.Obj.mk PySem.Value.none none (@PySem.Data.fields #[]) #[]) ::
  (nO (hd.heap_39 P) 19) ::
  (nO (hd.heap_39 P) 20) ::
  (@PySem.Obj.mk PySem.Value.none none (@PySem.Data.func (@PySem.FuncData.mk (@PySem.Str.ofString "__init__") (@PySem.Str.ofString "islice.__init__") (fP (sHd (sTl (cB (sHd (sTl (sTl (sTl (sTl pwBody))))))))) (@PySem.FuncBody.stmts (fB (sHd (sTl (cB (sHd (sTl (sTl (sTl (sTl pwBody)))))))))) (fS (sHd (sTl (cB (sHd (sTl (sTl (sTl (sTl pwBody))))))))) (0 : Nat) [] PySem.Value.none PySem.Value.none PySem.Value.none PySem.Value.none none PySem.Value.none PySem.Value.none (0 : Nat))) #[]) ::
  (nO (hd.heap_39 P) 21) ::
  (nO (hd.heap_39 P) 22) ::
  (nO (hd.heap_39 P) 23) ::
  (@PySem.Obj.mk PySem.Value.none none (@PySem.Data.fields #[]) #[]) ::
  (nO (hd.heap_39 P) 24) ::
  (nO (hd.heap_39 P) 25) ::
  (@PySem.Obj.mk PySem.Value.none none (@PySem.Data.func (@PySem.FuncData.mk (@PySem.Str.ofString "__iter__") (@PySem.Str.ofString "islice.__iter__") (fP (sHd (sTl (sTl (cB (sHd (sTl (sTl (sTl (sTl pwBody)))))))))) (@PySem.FuncBody.stmts (fB (sHd (sTl (sTl (cB (sHd (sTl (sTl (sTl (sTl pwBody))))))))))) (fS (sHd (sTl (sTl (cB (sHd (sTl (sTl (sTl (sTl (sTl pwBody))))))))))) (0 : Nat) [] PySem.Value.none PySem.Value.none PySem.Value.none PySem.Value.none none PySem.Value.none PySem.Value.none (0 : Nat))) #[]) ::
  (nO (hd.heap_39 P) 26) ::
  (nO (hd.heap_39 P) 27) ::
  (nO (hd.heap_39 P) 28) ::
  (@PySem.Obj.mk PySem.Value.none none (@PySem.Data.fields #[]) #[]) ::
  (nO (hd.heap_39 P) 29) ::
  (nO (hd.heap_39 P) 30) ::
  (@PySem.Obj.mk PySem.Value.none none (@PySem.Data.func (@PySem.FuncData.mk (@PySem.Str.ofString "__next__") (@PySem.Str.ofString "islice.__next__") (fP (sHd (sTl (sTl (sTl (cB (sHd (sTl (sTl (sTl (sTl pwBody))))))))))) (@PySem.FuncBody.stmts (fB (sHd (sTl (sTl (sTl (cB (sHd (sTl (sTl (sTl (sTl pwBody)))))))))))) (fS (sHd (sTl (sTl (sTl (cB (sHd (sTl (sTl (sTl (sTl pwBody))))))))))) (0 : Nat) [] PySem.Value.none PySem.Value.none PySem.Value.none PySem.Value.none none PySem.Value.none PySem.Value.none (0 : Nat))) #[]) ::
  (nO (hd.heap_39 P) 31) ::
  (nO (hd.heap_39 P) 32) ::
  (nO (hd.heap_39 P) 33) ::
  (@PySem.Obj.mk (@PySem.Value.type "list") none (@PySem.Data.seq #[(@PySem.Value.str (@PySem.Str.ofString "_it") (225 : Nat)), (@PySem.Value.str (@PySem.Str.ofString "_next") (226 : Nat)), (@PySem.Value.str (@PySem.Str.ofString "_stop") (227 : Nat)), (@PySem.Value.str (@PySem.Str.ofString "_step") (228 : Nat)), (@PySem.Value.str (@PySem.Str.ofString "_cnt") (229 : Nat))] (1 : Nat)) #[]) ::
  (nO (hd.heap_39 P) 34) ::
  (nO (hd.heap_39 P) 35) ::
  (nO (hd.heap_39 P) 36) ::
  (nO (hd.heap_39 P) 37) ::
  (nO (hd.heap_39 P) 38) ::
  (nO (hd.heap_39 P) 39) ::
  (nO (hd.heap_39 P) 40) ::
  (@PySem.Obj.mk (@PySem.Value.type "super") none (@PySem.Data.fields #[(@PySem.Value.ref (68 : Nat)), (@PySem.Value.ref (68 : Nat)), (@PySem.Value.ref (68 : Nat))]) #[]) ::
  (@PySem.Obj.mk (@PySem.Value.type "builtin_function_or_method") none (@PySem.Data.fields #[(@PySem.Value.builtin "object.__init_subclass__"), (@PySem.Value.ref (68 : Nat))]) #[]) ::
  (@PySem.Obj.mk (@PySem.Value.type "tuple") none (@PySem.Data.seq #[] (0 : Nat)) #[]) ::
  (@PySem.Obj.mk (@PySem.Value.type "builtin_function_or_method") none (@PySem.Data.fields #[(@PySem.Value.builtin "type.__prepare__"), (@PySem.Value.type "type")]) #[]) ::
  (@PySem.Obj.mk (@PySem.Value.type "dict") none (@PySem.Data.dict #[(@PySem.DictEntry.mk (@PySem.PyData.keyHash P (@PySem.Str.ofString "__module__")) (@PySem.Value.str (@PySem.Str.ofString "__module__") (288 : Nat)) (@PySem.Value.str (@PySem.Str.ofString "itertools") (194 : Nat))), (@PySem.DictEntry.mk (@PySem.PyData.keyHash P (@PySem.Str.ofString "__qualname__")) (@PySem.Value.str (@PySem.Str.ofString "__qualname__") (290 : Nat)) (@PySem.Value.str (@PySem.Str.ofString "filterfalse") (289 : Nat))), (@PySem.DictEntry.mk (@PySem.PyData.keyHash P (@PySem.Str.ofString "__firstlineno__")) (@PySem.Value.str (@PySem.Str.ofString "__firstlineno__") (292 : Nat)) (@PySem.Value.int (70 : Int) (291 : Nat))), (@PySem.DictEntry.mk (@PySem.PyData.keyHash P (@PySem.Str.ofString "__slots__")) (@PySem.Value.str (@PySem.Str.ofString "__slots__") (295 : Nat)) (@PySem.Value.ref (83 : Nat))), (@PySem.DictEntry.mk (@PySem.PyData.keyHash P (@PySem.Str.ofString "__init__")) (@PySem.Value.str (@PySem.Str.ofString "__init__") (304 : Nat)) (@PySem.Value.ref (90 : Nat))), (@PySem.DictEntry.mk (@PySem.PyData.keyHash P (@PySem.Str.ofString "__iter__")) (@PySem.Value.str (@PySem.Str.ofString "__iter__") (311 : Nat)) (@PySem.Value.ref (97 : Nat))), (@PySem.DictEntry.mk (@PySem.PyData.keyHash P (@PySem.Str.ofString "__next__")) (@PySem.Value.str (@PySem.Str.ofString "__next__") (320 : Nat)) (@PySem.Value.ref (104 : Nat))), (@PySem.DictEntry.mk (@PySem.PyData.keyHash P (@PySem.Str.ofString "__static_attributes__")) (@PySem.Value.str (@PySem.Str.ofString "__static_attributes__") (323 : Nat)) (@PySem.Value.ref (105 : Nat)))] (8 : Nat)) #[]) ::
  (@PySem.Obj.mk (@PySem.Value.type "tuple") none (@PySem.Data.seq #[] (0 : Nat)) #[]) ::
  (@PySem.Obj.mk PySem.Value.none none (@PySem.Data.fields #[(@PySem.Value.int (73 : Int) (0 : Nat)), (@PySem.Value.int (4 : Int) (0 : Nat)), (@PySem.Value.ref (89 : Nat)), (@PySem.Value.int (77 : Int) (0 : Nat)), (@PySem.Value.int (4 : Int) (0 : Nat)), (@PySem.Value.ref (96 : Nat)), (@PySem.Value.int (80 : Int) (0 : Nat)), (@PySem.Value.int (4 : Int) (0 : Nat)), (@PySem.Value.ref (103 : Nat))]) #[]) ::
  (@PySem.Obj.mk (@PySem.Value.type "code") none (@PySem.Data.fields #[(@PySem.Value.str (@PySem.Str.ofString "filterfalse") (283 : Nat)), (@PySem.Value.str (@PySem.Str.ofString "filterfalse") (284 : Nat)), (@PySem.Value.str (@PySem.Str.ofString "/claim/cut.py") (285 : Nat)), (@PySem.Value.int (70 : Int) (0 : Nat)), (@PySem.Value.int (0 : Int) (0 : Nat)), (@PySem.Value.int (0 : Int) (0 : Nat)), (@PySem.Value.int (0 : Int) (0 : Nat)), (@PySem.Value.int (0 : Int) (0 : Nat)), (@PySem.Value.ref (79 : Nat)), (@PySem.Value.bool Bool.false), (@PySem.Value.int (181 : Int) (0 : Nat)), (@PySem.Value.ref (80 : Nat)), PySem.Value.none, PySem.Value.none, PySem.Value.none, PySem.Value.none, (@PySem.Value.int (286 : Int) (0 : Nat)), (@PySem.Value.int (70 : Int) (0 : Nat)), (@PySem.Value.str (@PySem.Str.ofString "/claim/cut.py") (287 : Nat))]) #[]) ::
  (@PySem.Obj.mk (@PySem.Value.type "frame") none PySem.Data.plain #[(some (@PySem.Value.ref (81 : Nat))), (some (@PySem.Value.ref (3 : Nat))), (some (@PySem.Value.ref (78 : Nat))), none, (some (@PySem.Value.str (@PySem.Str.ofString "itertools") (194 : Nat))), none, (some (@PySem.Value.ref (0 : Nat)))]) ::
  (nO (hd.heap_39 P) 41) ::
  (nO (hd.heap_39 P) 42) ::
  (@PySem.Obj.mk PySem.Value.none none (@PySem.Data.fields #[]) #[]) ::
  (nO (hd.heap_39 P) 43) ::
  (nO (hd.heap_39 P) 44) ::
  (@PySem.Obj.mk PySem.Value.none none (@PySem.Data.func (@PySem.FuncData.mk (@PySem.Str.ofString "__init__") (@PySem.Str.ofString "filterfalse.__init__") (fP (sHd (sTl (cB (sHd (sTl (sTl (sTl (sTl (sTl pwBody)))))))))) (@PySem.FuncBody.stmts (fB (sHd (sTl (cB (sHd (sTl (sTl (sTl (sTl (sTl pwBody))))))))))) (fS (sHd (sTl (cB (sHd (sTl (sTl (sTl (sTl (sTl pwBody)))))))))) (0 : Nat) [] PySem.Value.none PySem.Value.none PySem.Value.none PySem.Value.none none PySem.Value.none PySem.Value.none (0 : Nat))) #[]) ::
  (nO (hd.heap_39 P) 45) ::
  (nO (hd.heap_39 P) 46) ::
  (nO (hd.heap_39 P) 47) ::
  (@PySem.Obj.mk PySem.Value.none none (@PySem.Data.fields #[]) #[]) ::
  (nO (hd.heap_39 P) 48) ::
  (nO (hd.heap_39 P) 49) ::
  (@PySem.Obj.mk PySem.Value.none none (@PySem.Data.func (@PySem.FuncData.mk (@PySem.Str.ofString "__iter__") (@PySem.Str.ofString "filterfalse.__iter__") (fP (sHd (sTl (sTl (cB (sHd (sTl (sTl (sTl (sTl (sTl pwBody))))))))))) (@PySem.FuncBody.stmts (fB (sHd (sTl (sTl (cB (sHd (sTl (sTl (sTl (sTl (sTl pwBody)))))))))))) (fS (sHd (sTl (sTl (cB (sHd (sTl (sTl (sTl (sTl (sTl pwBody))))))))))) (0 : Nat) [] PySem.Value.none PySem.Value.none PySem.Value.none PySem.Value.none none PySem.Value.none PySem.Value.none (0 : Nat))) #[]) ::
  (nO (hd.heap_39 P) 50) ::
  (nO (hd.heap_39 P) 51) ::
  (nO (hd.heap_39 P) 52) ::
  (@PySem.Obj.mk PySem.Value.none none (@PySem.Data.fields #[]) #[]) ::
  (nO (hd.heap_39 P) 53) ::
  (nO (hd.heap_39 P) 54) ::
  (@PySem.Obj.mk PySem.Value.none none (@PySem.Data.func (@PySem.FuncData.mk (@PySem.Str.ofString "__next__") (@PySem.Str.ofString "filterfalse.__next__") (fP (sHd (sTl (sTl (sTl (cB (sHd (sTl (sTl (sTl (sTl (sTl pwBody)))))))))))) (@PySem.FuncBody.stmts (fB (sHd (sTl (sTl (sTl (cB (sHd (sTl (sTl (sTl (sTl (sTl pwBody))))))))))))) (fS (sHd (sTl (sTl (sTl (cB (sHd (sTl (sTl (sTl (sTl (sTl pwBody)))))))))))) (0 : Nat) [] PySem.Value.none PySem.Value.none PySem.Value.none PySem.Value.none none PySem.Value.none PySem.Value.none (0 : Nat))) #[]) ::
  (nO (hd.heap_39 P) 55) ::
  (nO (hd.heap_39 P) 56) ::
  (nO (hd.heap_39 P) 57) ::
  (@PySem.Obj.mk (@PySem.Value.type "list") none (@PySem.Data.seq #[(@PySem.Value.str (@PySem.Str.ofString "_it") (293 : Nat)), (@PySem.Value.str (@PySem.Str.ofString "_func") (294 : Nat))] (1 : Nat)) #[]) ::
  (nO (hd.heap_39 P) 58) ::
  (nO (hd.heap_39 P) 59) ::
  (nO (hd.heap_39 P) 60) ::
  (nO (hd.heap_39 P) 61) ::
  (@PySem.Obj.mk (@PySem.Value.type "super") none (@PySem.Data.fields #[(@PySem.Value.ref (108 : Nat)), (@PySem.Value.ref (108 : Nat)), (@PySem.Value.ref (108 : Nat))]) #[]) ::
  (@PySem.Obj.mk (@PySem.Value.type "builtin_function_or_method") none (@PySem.Data.fields #[(@PySem.Value.builtin "object.__init_subclass__"), (@PySem.Value.ref (108 : Nat))]) #[]) ::
  (nO (hd.heap_39 P) 62) ::
  (@PySem.Obj.mk PySem.Value.none none (@PySem.Data.fields #[]) #[]) ::
  (nO (hd.heap_39 P) 63) ::
  (nO (hd.heap_39 P) 64) ::
  (@PySem.Obj.mk PySem.Value.none none (@PySem.Data.func (@PySem.FuncData.mk (@PySem.Str.ofString "_parents") (@PySem.Str.ofString "_parents") (fP (sHd (sTl (sTl (sTl (sTl (sTl (sTl (sTl pwBody))))))))) (@PySem.FuncBody.stmts (fB (sHd (sTl (sTl (sTl (sTl (sTl (sTl (sTl pwBody)))))))))) (fS (sHd (sTl (sTl (sTl (sTl (sTl (sTl (sTl pwBody))))))))) (0 : Nat) [] PySem.Value.none PySem.Value.none PySem.Value.none PySem.Value.none none PySem.Value.none PySem.Value.none (0 : Nat))) #[]) ::
  (nO (hd.heap_39 P) 65) ::
  (nO (hd.heap_39 P) 66) ::
  (nO (hd.heap_39 P) 67) ::
  (@PySem.Obj.mk PySem.Value.none none (@PySem.Data.fields #[]) #[]) ::
  (nO (hd.heap_39 P) 68) ::
  (nO (hd.heap_39 P) 69) ::
  (@PySem.Obj.mk PySem.Value.none none (@PySem.Data.func (@PySem.FuncData.mk (@PySem.Str.ofString "_kind") (@PySem.Str.ofString "_kind") (fP (sHd (sTl (sTl (sTl (sTl (sTl (sTl (sTl (sTl (sTl (sTl pwBody)))))))))))) (@PySem.FuncBody.stmts (fB (sHd (sTl (sTl (sTl (sTl (sTl (sTl (sTl (sTl (sTl (sTl pwBody))))))))))))) (fS (sHd (sTl (sTl (sTl (sTl (sTl (sTl (sTl (sTl (sTl (sTl pwBody)))))))))))) (0 : Nat) [] PySem.Value.none PySem.Value.none PySem.Value.none PySem.Value.none none PySem.Value.none PySem.Value.none (0 : Nat))) #[]) ::
  (nO (hd.heap_39 P) 70) ::
  (nO (hd.heap_39 P) 71) ::
  (nO (hd.heap_39 P) 72) ::
  (@PySem.Obj.mk PySem.Value.none none (@PySem.Data.fields #[]) #[]) ::
  (nO (hd.heap_39 P) 73) ::
  (nO (hd.heap_39 P) 74) ::
  (@PySem.Obj.mk PySem.Value.none none (@PySem.Data.func (@PySem.FuncData.mk (@PySem.Str.ofString "_fspath") (@PySem.Str.ofString "_fspath") (fP (sHd (sTl (sTl (sTl (sTl (sTl (sTl (sTl (sTl (sTl (sTl (sTl pwBody))))))))))))) (@PySem.FuncBody.stmts (fB (sHd (sTl (sTl (sTl (sTl (sTl (sTl (sTl (sTl (sTl (sTl (sTl pwBody)))))))))))))) (fS (sHd (sTl (sTl (sTl (sTl (sTl (sTl (sTl (sTl (sTl (sTl (sTl pwBody))))))))))))) (0 : Nat) [] PySem.Value.none PySem.Value.none PySem.Value.none PySem.Value.none none PySem.Value.none PySem.Value.none (0 : Nat))) #[]) ::
  (nO (hd.heap_39 P) 75) ::
  (nO (hd.heap_39 P) 76) ::
  (nO (hd.heap_39 P) 77) ::
  (@PySem.Obj.mk PySem.Value.none none (@PySem.Data.fields #[]) #[]) ::
  (nO (hd.heap_39 P) 78) ::
  (nO (hd.heap_39 P) 79) ::
  (@PySem.Obj.mk PySem.Value.none none (@PySem.Data.func (@PySem.FuncData.mk (@PySem.Str.ofString "split") (@PySem.Str.ofString "split") (fP (sHd (sTl (sTl (sTl (sTl (sTl (sTl (sTl (sTl (sTl (sTl (sTl (sTl pwBody)))))))))))))) (@PySem.FuncBody.stmts (fB (sHd (sTl (sTl (sTl (sTl (sTl (sTl (sTl (sTl (sTl (sTl (sTl (sTl pwBody))))))))))))))) (fS (sHd (sTl (sTl (sTl (sTl (sTl (sTl (sTl (sTl (sTl (sTl (sTl (sTl pwBody)))))))))))))) (0 : Nat) [] PySem.Value.none PySem.Value.none PySem.Value.none PySem.Value.none none PySem.Value.none PySem.Value.none (0 : Nat))) #[]) ::
  (nO (hd.heap_39 P) 80) ::
  (nO (hd.heap_39 P) 81) ::
  (nO (hd.heap_39 P) 82) ::
  (@PySem.Obj.mk PySem.Value.none none (@PySem.Data.fields #[]) #[]) ::
  (nO (hd.heap_39 P) 83) ::
  (nO (hd.heap_39 P) 84) ::
  (@PySem.Obj.mk PySem.Value.none none (@PySem.Data.func (@PySem.FuncData.mk (@PySem.Str.ofString "_ancestry") (@PySem.Str.ofString "_ancestry") (fP (sHd (sTl (sTl (sTl (sTl (sTl (sTl (sTl (sTl (sTl (sTl (sTl (sTl (sTl (sTl pwBody)))))))))))))))) (@PySem.FuncBody.stmts (fB (sHd (sTl (sTl (sTl (sTl (sTl (sTl (sTl (sTl (sTl (sTl (sTl (sTl (sTl (sTl pwBody))))))))))))))))) (fS (sHd (sTl (sTl (sTl (sTl (sTl (sTl (sTl (sTl (sTl (sTl (sTl (sTl (sTl (sTl pwBody)))))))))))))))) (0 : Nat) [] PySem.Value.none PySem.Value.none PySem.Value.none PySem.Value.none none PySem.Value.none PySem.Value.none (0 : Nat))) #[]) ::
  (nO (hd.heap_39 P) 85) ::
  (nO (hd.heap_39 P) 86) ::
  (nO (hd.heap_39 P) 87) ::
  (@PySem.Obj.mk PySem.Value.none none (@PySem.Data.fields #[]) #[]) ::
  (nO (hd.heap_39 P) 88) ::
  (nO (hd.heap_39 P) 89) ::
  (@PySem.Obj.mk PySem.Value.none none (@PySem.Data.func (@PySem.FuncData.mk (@PySem.Str.ofString "_difference") (@PySem.Str.ofString "_difference") (fP (sHd (sTl (sTl (sTl (sTl (sTl (sTl (sTl (sTl (sTl (sTl (sTl (sTl (sTl (sTl (sTl pwBody))))))))))))))))) (@PySem.FuncBody.stmts (fB (sHd (sTl (sTl (sTl (sTl (sTl (sTl (sTl (sTl (sTl (sTl (sTl (sTl (sTl (sTl (sTl pwBody)))))))))))))))))) (fS (sHd (sTl (sTl (sTl (sTl (sTl (sTl (sTl (sTl (sTl (sTl (sTl (sTl (sTl (sTl (sTl pwBody))))))))))))))))) (0 : Nat) [] PySem.Value.none PySem.Value.none PySem.Value.none PySem.Value.none none PySem.Value.none PySem.Value.none (0 : Nat))) #[]) ::
  (nO (hd.heap_39 P) 90) ::
  (nO (hd.heap_39 P) 91) ::
  (nO (hd.heap_39 P) 92) ::
  (@PySem.Obj.mk PySem.Value.none none (@PySem.Data.fields #[]) #[]) ::
  (nO (hd.heap_39 P) 93) ::
  (nO (hd.heap_39 P) 94) ::
  (@PySem.Obj.mk PySem.Value.none none (@PySem.Data.func (@PySem.FuncData.mk (@PySem.Str.ofString "_ctoi") (@PySem.Str.ofString "_ctoi") (fP (sHd (sTl (sTl (sTl (sTl (sTl (sTl (sTl (sTl (sTl (sTl (sTl (sTl (sTl (sTl (sTl (sTl (sTl pwBody))))))))))))))))))) (@PySem.FuncBody.stmts (fB (sHd (sTl (sTl (sTl (sTl (sTl (sTl (sTl (sTl (sTl (sTl (sTl (sTl (sTl (sTl (sTl (sTl (sTl pwBody)))))))))))))))))))) (fS (sHd (sTl (sTl (sTl (sTl (sTl (sTl (sTl (sTl (sTl (sTl (sTl (sTl (sTl (sTl (sTl (sTl (sTl pwBody))))))))))))))))))) (0 : Nat) [] PySem.Value.none PySem.Value.none PySem.Value.none PySem.Value.none none PySem.Value.none PySem.Value.none (0 : Nat))) #[]) ::
  (nO (hd.heap_39 P) 95) ::
  (nO (hd.heap_39 P) 96) ::
  (nO (hd.heap_39 P) 97) ::
  (@PySem.Obj.mk PySem.Value.none none (@PySem.Data.fields #[]) #[]) ::
  (nO (hd.heap_39 P) 98) ::
  (nO (hd.heap_39 P) 99) ::
  (@PySem.Obj.mk PySem.Value.none none (@PySem.Data.func (@PySem.FuncData.mk (@PySem.Str.ofString "isprint") (@PySem.Str.ofString "isprint") (fP (sHd (sTl (sTl (sTl (sTl (sTl (sTl (sTl (sTl (sTl (sTl (sTl (sTl (sTl (sTl (sTl (sTl (sTl (sTl pwBody)))))))))))))))))))) (@PySem.FuncBody.stmts (fB (sHd (sTl (sTl (sTl (sTl (sTl (sTl (sTl (sTl (sTl (sTl (sTl (sTl (sTl (sTl (sTl (sTl (sTl (sTl pwBody))))))))))))))))))))) (fS (sHd (sTl (sTl (sTl (sTl (sTl (sTl (sTl (sTl (sTl (sTl (sTl (sTl (sTl (sTl (sTl (sTl (sTl (sTl pwBody)))))))))))))))))))) (0 : Nat) [] PySem.Value.none PySem.Value.none PySem.Value.none PySem.Value.none none PySem.Value.none PySem.Value.none (0 : Nat))) #[]) ::
  (nO (hd.heap_39 P) 100) ::
  (nO (hd.heap_39 P) 101) ::
  (nO (hd.heap_39 P) 102) ::
  (@PySem.Obj.mk PySem.Value.none none (@PySem.Data.fields #[]) #[]) ::
  (nO (hd.heap_39 P) 103) ::
  (nO (hd.heap_39 P) 104) ::
  (@PySem.Obj.mk PySem.Value.none none (@PySem.Data.func (@PySem.FuncData.mk (@PySem.Str.ofString "ctrl") (@PySem.Str.ofString "ctrl") (fP (sHd (sTl (sTl (sTl (sTl (sTl (sTl (sTl (sTl (sTl (sTl (sTl (sTl (sTl (sTl (sTl (sTl (sTl (sTl (sTl pwBody))))))))))))))))))))) (@PySem.FuncBody.stmts (fB (sHd (sTl (sTl (sTl (sTl (sTl (sTl (sTl (sTl (sTl (sTl (sTl (sTl (sTl (sTl (sTl (sTl (sTl (sTl (sTl pwBody)))))))))))))))))))))) (fS (sHd (sTl (sTl (sTl (sTl (sTl (sTl (sTl (sTl (sTl (sTl (sTl (sTl (sTl (sTl (sTl (sTl (sTl (sTl (sTl (sTl pwBody)))))))))))))))))))))) (0 : Nat) [] PySem.Value.none PySem.Value.none PySem.Value.none PySem.Value.none none PySem.Value.none PySem.Value.none (0 : Nat))) #[]) ::
  (nO (hd.heap_39 P) 105) ::
  (nO (hd.heap_39 P) 106) ::
  (nO (hd.heap_39 P) 107) ::
  (@PySem.Obj.mk PySem.Value.none none (@PySem.Data.fields #[]) #[]) ::
  (nO (hd.heap_39 P) 108) ::
  (nO (hd.heap_39 P) 109) ::
  (@PySem.Obj.mk PySem.Value.none none (@PySem.Data.func (@PySem.FuncData.mk (@PySem.Str.ofString "alt") (@PySem.Str.ofString "alt") (fP (sHd (sTl (sTl (sTl (sTl (sTl (sTl (sTl (sTl (sTl (sTl (sTl (sTl (sTl (sTl (sTl (sTl (sTl (sTl (sTl (sTl pwBody)))))))))))))))))))))) (@PySem.FuncBody.stmts (fB (sHd (sTl (sTl (sTl (sTl (sTl (sTl (sTl (sTl (sTl (sTl (sTl (sTl (sTl (sTl (sTl (sTl (sTl (sTl (sTl (sTl pwBody))))))))))))))))))))))) (fS (sHd (sTl (sTl (sTl (sTl (sTl (sTl (sTl (sTl (sTl (sTl (sTl (sTl (sTl (sTl (sTl (sTl (sTl (sTl (sTl (sTl pwBody)))))))))))))))))))))) (0 : Nat) [] PySem.Value.none PySem.Value.none PySem.Value.none PySem.Value.none none PySem.Value.none PySem.Value.none (0 : Nat))) #[]) ::
  (nO (hd.heap_39 P) 110) ::
  (nO (hd.heap_39 P) 111) ::
  (nO (hd.heap_39 P) 112) ::
  (@PySem.Obj.mk PySem.Value.none none (@PySem.Data.fields #[]) #[]) ::
  (nO (hd.heap_39 P) 113) ::
  (nO (hd.heap_39 P) 114) ::
  (@PySem.Obj.mk PySem.Value.none none (@PySem.Data.func (@PySem.FuncData.mk (@PySem.Str.ofString "unctrl") (@PySem.Str.ofString "unctrl") (fP (sHd (sTl (sTl (sTl (sTl (sTl (sTl (sTl (sTl (sTl (sTl (sTl (sTl (sTl (sTl (sTl (sTl (sTl (sTl (sTl (sTl (sTl pwBody))))))))))))))))))))))) (@PySem.FuncBody.stmts (fB (sHd (sTl (sTl (sTl (sTl (sTl (sTl (sTl (sTl (sTl (sTl (sTl (sTl (sTl (sTl (sTl (sTl (sTl (sTl (sTl (sTl (sTl pwBody)))))))))))))))))))))))) (fS (sHd (sTl (sTl (sTl (sTl (sTl (sTl (sTl (sTl (sTl (sTl (sTl (sTl (sTl (sTl (sTl (sTl (sTl (sTl (sTl (sTl (sTl pwBody))))))))))))))))))))))) (0 : Nat) [] PySem.Value.none PySem.Value.none PySem.Value.none PySem.Value.none none PySem.Value.none PySem.Value.none (0 : Nat))) #[]) ::
  (nO (hd.heap_39 P) 115) ::
  (nO (hd.heap_39 P) 116) ::
  (nO (hd.heap_39 P) 117) ::
  (@PySem.Obj.mk PySem.Value.none none (@PySem.Data.fields #[]) #[]) ::
  (nO (hd.heap_39 P) 118) ::
  (nO (hd.heap_39 P) 119) ::
  (@PySem.Obj.mk PySem.Value.none none (@PySem.Data.func (@PySem.FuncData.mk (@PySem.Str.ofString "_law_rows") (@PySem.Str.ofString "_law_rows") (fP (sHd (sTl (sTl (sTl (sTl (sTl (sTl (sTl (sTl (sTl (sTl (sTl (sTl (sTl (sTl (sTl (sTl (sTl (sTl (sTl (sTl (sTl (sTl (sTl pwBody))))))))))))))))))))))))) (@PySem.FuncBody.stmts (fB (sHd (sTl (sTl (sTl (sTl (sTl (sTl (sTl (sTl (sTl (sTl (sTl (sTl (sTl (sTl (sTl (sTl (sTl (sTl (sTl (sTl (sTl (sTl (sTl pwBody)))))))))))))))))))))))))) (fS (sHd (sTl (sTl (sTl (sTl (sTl (sTl (sTl (sTl (sTl (sTl (sTl (sTl (sTl (sTl (sTl (sTl (sTl (sTl (sTl (sTl (sTl (sTl (sTl pwBody))))))))))))))))))))))))) (0 : Nat) [] PySem.Value.none PySem.Value.none PySem.Value.none PySem.Value.none none PySem.Value.none PySem.Value.none (0 : Nat))) #[]) ::
  (nO (hd.heap_39 P) 120) ::
  (nO (hd.heap_39 P) 121) ::
  (nO (hd.heap_39 P) 122) ::
  (@PySem.Obj.mk PySem.Value.none none (@PySem.Data.fields #[]) #[]) ::
  (nO (hd.heap_39 P) 123) ::
  (nO (hd.heap_39 P) 124) ::
  (@PySem.Obj.mk PySem.Value.none none (@PySem.Data.func (@PySem.FuncData.mk (@PySem.Str.ofString "_law_octets") (@PySem.Str.ofString "_law_octets") (fP (sHd (sTl (sTl (sTl (sTl (sTl (sTl (sTl (sTl (sTl (sTl (sTl (sTl (sTl (sTl (sTl (sTl (sTl (sTl (sTl (sTl (sTl (sTl (sTl (sTl pwBody)))))))))))))))))))))))))) (@PySem.FuncBody.stmts (fB (sHd (sTl (sTl (sTl (sTl (sTl (sTl (sTl (sTl (sTl (sTl (sTl (sTl (sTl (sTl (sTl (sTl (sTl (sTl (sTl (sTl (sTl (sTl (sTl (sTl pwBody))))))))))))))))))))))))))) (fS (sHd (sTl (sTl (sTl (sTl (sTl (sTl (sTl (sTl (sTl (sTl (sTl (sTl (sTl (sTl (sTl (sTl (sTl (sTl (sTl (sTl (sTl (sTl (sTl (sTl pwBody)))))))))))))))))))))))))) (0 : Nat) [] PySem.Value.none PySem.Value.none PySem.Value.none PySem.Value.none none PySem.Value.none PySem.Value.none (0 : Nat))) #[]) ::
  (nO (hd.heap_39 P) 125) ::
  (nO (hd.heap_39 P) 126) ::
  (nO (hd.heap_39 P) 127) ::
  (@PySem.Obj.mk PySem.Value.none none (@PySem.Data.fields #[]) #[]) ::
  (nO (hd.heap_39 P) 128) ::
  (nO (hd.heap_39 P) 129) ::
  (@PySem.Obj.mk PySem.Value.none none (@PySem.Data.func (@PySem.FuncData.mk (@PySem.Str.ofString "_law_sign") (@PySem.Str.ofString "_law_sign") (fP (sHd (sTl (sTl (sTl (sTl (sTl (sTl (sTl (sTl (sTl (sTl (sTl (sTl (sTl (sTl (sTl (sTl (sTl (sTl (sTl (sTl (sTl (sTl (sTl (sTl (sTl pwBody))))))))))))))))))))))))))) (@PySem.FuncBody.stmts (fB (sHd (sTl (sTl (sTl (sTl (sTl (sTl (sTl (sTl (sTl (sTl (sTl (sTl (sTl (sTl (sTl (sTl (sTl (sTl (sTl (sTl (sTl (sTl (sTl (sTl (sTl pwBody)))))))))))))))))))))))))))) (fS (sHd (sTl (sTl (sTl (sTl (sTl (sTl (sTl (sTl (sTl (sTl (sTl (sTl (sTl (sTl (sTl (sTl (sTl (sTl (sTl (sTl (sTl (sTl (sTl (sTl (sTl pwBody))))))))))))))))))))))))))) (0 : Nat) [] PySem.Value.none PySem.Value.none PySem.Value.none PySem.Value.none none PySem.Value.none PySem.Value.none (0 : Nat))) #[]) ::
  (nO (hd.heap_39 P) 130) ::
  (nO (hd.heap_39 P) 131) ::
  (nO (hd.heap_39 P) 132) ::
  (@PySem.Obj.mk PySem.Value.none none (@PySem.Data.fields #[]) #[]) ::
  (@PySem.Obj.mk PySem.Value.none none (@PySem.Data.func (@PySem.FuncData.mk (@PySem.Str.ofString "_law_read") (@PySem.Str.ofString "_law_read") (fP (sHd (sTl (sTl (sTl (sTl (sTl (sTl (sTl (sTl (sTl (sTl (sTl (sTl (sTl (sTl (sTl (sTl (sTl (sTl (sTl (sTl (sTl (sTl (sTl (sTl (sTl (sTl pwBody)))))))))))))))))))))))))))) (@PySem.FuncBody.stmts (fB (sHd (sTl (sTl (sTl (sTl (sTl (sTl (sTl (sTl (sTl (sTl (sTl (sTl (sTl (sTl (sTl (sTl (sTl (sTl (sTl (sTl (sTl (sTl (sTl (sTl (sTl (sTl pwBody))))))))))))))))))))))))))))) (fS (sHd (sTl (sTl (sTl (sTl (sTl (sTl (sTl (sTl (sTl (sTl (sTl (sTl (sTl (sTl (sTl (sTl (sTl (sTl (sTl (sTl (sTl (sTl (sTl (sTl (sTl (sTl pwBody)))))))))))))))))))))))))))) (0 : Nat) [] PySem.Value.none PySem.Value.none PySem.Value.none PySem.Value.none none PySem.Value.none PySem.Value.none (0 : Nat))) #[]) ::
  (nO (hd.heap_39 P) 133) ::
  (nO (hd.heap_39 P) 134) ::
  (nO (hd.heap_39 P) 135) ::
  (@PySem.Obj.mk PySem.Value.none none (@PySem.Data.fields #[]) #[]) ::
  (@PySem.Obj.mk PySem.Value.none none (@PySem.Data.func (@PySem.FuncData.mk (@PySem.Str.ofString "law") (@PySem.Str.ofString "law") (fP (sHd (sTl (sTl (sTl (sTl (sTl (sTl (sTl (sTl (sTl (sTl (sTl (sTl (sTl (sTl (sTl (sTl (sTl (sTl (sTl (sTl (sTl (sTl (sTl (sTl (sTl (sTl (sTl pwBody))))))))))))))))))))))))))))) (@PySem.FuncBody.stmts (fB (sHd (sTl (sTl (sTl (sTl (sTl (sTl (sTl (sTl (sTl (sTl (sTl (sTl (sTl (sTl (sTl (sTl (sTl (sTl (sTl (sTl (sTl (sTl (sTl (sTl (sTl (sTl (sTl pwBody)))))))))))))))))))))))))))))) (fS (sHd (sTl (sTl (sTl (sTl (sTl (sTl (sTl (sTl (sTl (sTl (sTl (sTl (sTl (sTl (sTl (sTl (sTl (sTl (sTl (sTl (sTl (sTl (sTl (sTl (sTl (sTl (sTl pwBody))))))))))))))))))))))))))))) (0 : Nat) [] PySem.Value.none PySem.Value.none PySem.Value.none PySem.Value.none none PySem.Value.none PySem.Value.none (0 : Nat))) #[]) ::
  (nO (hd.heap_39 P) 136) ::
  (nO (hd.heap_39 P) 137) :: []
noncomputable def mkT (f : Nat → Obj) (n : Nat) : Nat → Nat → Nat → BT
  | 0, _, _ => .nil
  | k + 1, a, b => match Nat.blt b n with
    | true => .node (f b) (mkT f n k (2 * a) (a + b)) (mkT f n k (2 * a) (2 * a + b))
    | false => .nil
noncomputable def obAt (l : List Obj) (g h : Obj) (i : Nat) : Obj := match Nat.beq i 3 with
  | true => g
  | false => match Nat.beq i 12 with
    | true => h
    | false => nO' l i
abbrev life0 : Life := (@PySem.Life.mk [] [] [] (0 : Nat) [] [] Bool.false #[] [] (0 : Nat) Bool.false Bool.false Bool.false (0 : Int) [(2000 : Int), (10 : Int), (10 : Int)] Bool.false (0 : Nat) Bool.true [] [] (0 : Nat) Bool.false)
noncomputable def tr0 (P : Params) : BT := mkT (obAt (obs P) (@PySem.Obj.mk (@PySem.Value.type "dict") none (@PySem.Data.dict #[(@PySem.DictEntry.mk (@PySem.PyData.keyHash P (@PySem.Str.ofString "__name__")) (@PySem.Value.str (@PySem.Str.ofString "__name__") (165 : Nat)) (@PySem.Value.str (@PySem.Str.ofString "__main__") (164 : Nat))), (@PySem.DictEntry.mk (@PySem.PyData.keyHash P (@PySem.Str.ofString "__doc__")) (@PySem.Value.str (@PySem.Str.ofString "__doc__") (166 : Nat)) PySem.Value.none), (@PySem.DictEntry.mk (@PySem.PyData.keyHash P (@PySem.Str.ofString "__package__")) (@PySem.Value.str (@PySem.Str.ofString "__package__") (167 : Nat)) PySem.Value.none), (@PySem.DictEntry.mk (@PySem.PyData.keyHash P (@PySem.Str.ofString "__loader__")) (@PySem.Value.str (@PySem.Str.ofString "__loader__") (168 : Nat)) (@PySem.Value.builtin "__main__.__loader__#opaque")), (@PySem.DictEntry.mk (@PySem.PyData.keyHash P (@PySem.Str.ofString "__spec__")) (@PySem.Value.str (@PySem.Str.ofString "__spec__") (169 : Nat)) PySem.Value.none), (@PySem.DictEntry.mk (@PySem.PyData.keyHash P (@PySem.Str.ofString "__annotations__")) (@PySem.Value.str (@PySem.Str.ofString "__annotations__") (170 : Nat)) (@PySem.Value.ref (6 : Nat))), (@PySem.DictEntry.mk (@PySem.PyData.keyHash P (@PySem.Str.ofString "__builtins__")) (@PySem.Value.str (@PySem.Str.ofString "__builtins__") (171 : Nat)) (@PySem.Value.ref (4 : Nat))), (@PySem.DictEntry.mk (@PySem.PyData.keyHash P (@PySem.Str.ofString "__file__")) (@PySem.Value.str (@PySem.Str.ofString "__file__") (173 : Nat)) (@PySem.Value.str (@PySem.Str.ofString "/claim/cut.py") (172 : Nat))), (@PySem.DictEntry.mk (@PySem.PyData.keyHash P (@PySem.Str.ofString "__cached__")) (@PySem.Value.str (@PySem.Str.ofString "__cached__") (174 : Nat)) PySem.Value.none)] (9 : Nat)) #[]) (@PySem.Obj.mk PySem.Value.none none (@PySem.Data.fields #[]) #[])) 15 9 1 0
noncomputable abbrev st0 (w : World) (os : OsState) : SharedT := ⟨tr0 w.params, 15, life0, Array.mk [], (@PySem.Drawn.mk (0 : Nat) (0 : Nat) (0 : Nat) (0 : Nat)), 187, os⟩
noncomputable abbrev sh0 (w : World) (os : OsState) : Shared := (st0 w os).abs
noncomputable def tr1 (P : Params) : BT := mkT (obAt (obs P) (@PySem.Obj.mk (@PySem.Value.type "dict") none (@PySem.Data.dict #[(@PySem.DictEntry.mk (@PySem.PyData.keyHash P (@PySem.Str.ofString "__name__")) (@PySem.Value.str (@PySem.Str.ofString "__name__") (165 : Nat)) (@PySem.Value.str (@PySem.Str.ofString "itertools") (194 : Nat))), (@PySem.DictEntry.mk (@PySem.PyData.keyHash P (@PySem.Str.ofString "__doc__")) (@PySem.Value.str (@PySem.Str.ofString "__doc__") (166 : Nat)) PySem.Value.none), (@PySem.DictEntry.mk (@PySem.PyData.keyHash P (@PySem.Str.ofString "__package__")) (@PySem.Value.str (@PySem.Str.ofString "__package__") (167 : Nat)) PySem.Value.none), (@PySem.DictEntry.mk (@PySem.PyData.keyHash P (@PySem.Str.ofString "__loader__")) (@PySem.Value.str (@PySem.Str.ofString "__loader__") (168 : Nat)) (@PySem.Value.builtin "__main__.__loader__#opaque")), (@PySem.DictEntry.mk (@PySem.PyData.keyHash P (@PySem.Str.ofString "__spec__")) (@PySem.Value.str (@PySem.Str.ofString "__spec__") (169 : Nat)) PySem.Value.none), (@PySem.DictEntry.mk (@PySem.PyData.keyHash P (@PySem.Str.ofString "__annotations__")) (@PySem.Value.str (@PySem.Str.ofString "__annotations__") (170 : Nat)) (@PySem.Value.ref (6 : Nat))), (@PySem.DictEntry.mk (@PySem.PyData.keyHash P (@PySem.Str.ofString "__builtins__")) (@PySem.Value.str (@PySem.Str.ofString "__builtins__") (171 : Nat)) (@PySem.Value.ref (4 : Nat))), (@PySem.DictEntry.mk (@PySem.PyData.keyHash P (@PySem.Str.ofString "__file__")) (@PySem.Value.str (@PySem.Str.ofString "__file__") (173 : Nat)) (@PySem.Value.str (@PySem.Str.ofString "/claim/cut.py") (172 : Nat))), (@PySem.DictEntry.mk (@PySem.PyData.keyHash P (@PySem.Str.ofString "__cached__")) (@PySem.Value.str (@PySem.Str.ofString "__cached__") (174 : Nat)) PySem.Value.none), (@PySem.DictEntry.mk (@PySem.PyData.keyHash P (@PySem.Str.ofString "_wall")) (@PySem.Value.str (@PySem.Str.ofString "_wall") (193 : Nat)) (@PySem.Value.ref (21 : Nat))), (@PySem.DictEntry.mk (@PySem.PyData.keyHash P (@PySem.Str.ofString "_is_int")) (@PySem.Value.str (@PySem.Str.ofString "_is_int") (203 : Nat)) (@PySem.Value.ref (28 : Nat))), (@PySem.DictEntry.mk (@PySem.PyData.keyHash P (@PySem.Str.ofString "_whole")) (@PySem.Value.str (@PySem.Str.ofString "_whole") (212 : Nat)) (@PySem.Value.ref (35 : Nat)))] (12 : Nat)) #[]) (@PySem.Obj.mk PySem.Value.none none (@PySem.Data.fields #[(@PySem.Value.int (1 : Int) (0 : Nat)), (@PySem.Value.int (0 : Int) (0 : Nat)), (@PySem.Value.ref (20 : Nat)), (@PySem.Value.int (5 : Int) (0 : Nat)), (@PySem.Value.int (0 : Int) (0 : Nat)), (@PySem.Value.ref (27 : Nat)), (@PySem.Value.int (8 : Int) (0 : Nat)), (@PySem.Value.int (0 : Int) (0 : Nat)), (@PySem.Value.ref (34 : Nat))]) #[])) 36 9 1 0
noncomputable abbrev st1 (w : World) (os : OsState) : SharedT := ⟨tr1 w.params, 36, life0, Array.mk [], (@PySem.Drawn.mk (0 : Nat) (0 : Nat) (0 : Nat) (0 : Nat)), 213, os⟩
noncomputable abbrev sh1 (w : World) (os : OsState) : Shared := (st1 w os).abs
noncomputable def tr2 (P : Params) : BT := mkT (obAt (obs P) (@PySem.Obj.mk (@PySem.Value.type "dict") none (@PySem.Data.dict #[(@PySem.DictEntry.mk (@PySem.PyData.keyHash P (@PySem.Str.ofString "__name__")) (@PySem.Value.str (@PySem.Str.ofString "__name__") (165 : Nat)) (@PySem.Value.str (@PySem.Str.ofString "itertools") (194 : Nat))), (@PySem.DictEntry.mk (@PySem.PyData.keyHash P (@PySem.Str.ofString "__doc__")) (@PySem.Value.str (@PySem.Str.ofString "__doc__") (166 : Nat)) PySem.Value.none), (@PySem.DictEntry.mk (@PySem.PyData.keyHash P (@PySem.Str.ofString "__package__")) (@PySem.Value.str (@PySem.Str.ofString "__package__") (167 : Nat)) PySem.Value.none), (@PySem.DictEntry.mk (@PySem.PyData.keyHash P (@PySem.Str.ofString "__loader__")) (@PySem.Value.str (@PySem.Str.ofString "__loader__") (168 : Nat)) (@PySem.Value.builtin "__main__.__loader__#opaque")), (@PySem.DictEntry.mk (@PySem.PyData.keyHash P (@PySem.Str.ofString "__spec__")) (@PySem.Value.str (@PySem.Str.ofString "__spec__") (169 : Nat)) PySem.Value.none), (@PySem.DictEntry.mk (@PySem.PyData.keyHash P (@PySem.Str.ofString "__annotations__")) (@PySem.Value.str (@PySem.Str.ofString "__annotations__") (170 : Nat)) (@PySem.Value.ref (6 : Nat))), (@PySem.DictEntry.mk (@PySem.PyData.keyHash P (@PySem.Str.ofString "__builtins__")) (@PySem.Value.str (@PySem.Str.ofString "__builtins__") (171 : Nat)) (@PySem.Value.ref (4 : Nat))), (@PySem.DictEntry.mk (@PySem.PyData.keyHash P (@PySem.Str.ofString "__file__")) (@PySem.Value.str (@PySem.Str.ofString "__file__") (173 : Nat)) (@PySem.Value.str (@PySem.Str.ofString "/claim/cut.py") (172 : Nat))), (@PySem.DictEntry.mk (@PySem.PyData.keyHash P (@PySem.Str.ofString "__cached__")) (@PySem.Value.str (@PySem.Str.ofString "__cached__") (174 : Nat)) PySem.Value.none), (@PySem.DictEntry.mk (@PySem.PyData.keyHash P (@PySem.Str.ofString "_wall")) (@PySem.Value.str (@PySem.Str.ofString "_wall") (193 : Nat)) (@PySem.Value.ref (21 : Nat))), (@PySem.DictEntry.mk (@PySem.PyData.keyHash P (@PySem.Str.ofString "_is_int")) (@PySem.Value.str (@PySem.Str.ofString "_is_int") (203 : Nat)) (@PySem.Value.ref (28 : Nat))), (@PySem.DictEntry.mk (@PySem.PyData.keyHash P (@PySem.Str.ofString "_whole")) (@PySem.Value.str (@PySem.Str.ofString "_whole") (212 : Nat)) (@PySem.Value.ref (35 : Nat))), (@PySem.DictEntry.mk (@PySem.PyData.keyHash P (@PySem.Str.ofString "islice")) (@PySem.Value.str (@PySem.Str.ofString "islice") (280 : Nat)) (@PySem.Value.ref (68 : Nat)))] (13 : Nat)) #[]) (@PySem.Obj.mk PySem.Value.none none (@PySem.Data.fields #[(@PySem.Value.int (1 : Int) (0 : Nat)), (@PySem.Value.int (0 : Int) (0 : Nat)), (@PySem.Value.ref (20 : Nat)), (@PySem.Value.int (5 : Int) (0 : Nat)), (@PySem.Value.int (0 : Int) (0 : Nat)), (@PySem.Value.ref (27 : Nat)), (@PySem.Value.int (8 : Int) (0 : Nat)), (@PySem.Value.int (0 : Int) (0 : Nat)), (@PySem.Value.ref (34 : Nat)), (@PySem.Value.int (13 : Int) (0 : Nat)), (@PySem.Value.int (0 : Int) (0 : Nat)), (@PySem.Value.ref (41 : Nat))]) #[])) 76 9 1 0
noncomputable abbrev st2 (w : World) (os : OsState) : SharedT := ⟨tr2 w.params, 76, life0, Array.mk [], (@PySem.Drawn.mk (0 : Nat) (0 : Nat) (0 : Nat) (0 : Nat)), 281, os⟩
noncomputable abbrev sh2 (w : World) (os : OsState) : Shared := (st2 w os).abs
noncomputable def tr3 (P : Params) : BT := mkT (obAt (obs P) (@PySem.Obj.mk (@PySem.Value.type "dict") none (@PySem.Data.dict #[(@PySem.DictEntry.mk (@PySem.PyData.keyHash P (@PySem.Str.ofString "__name__")) (@PySem.Value.str (@PySem.Str.ofString "__name__") (165 : Nat)) (@PySem.Value.str (@PySem.Str.ofString "itertools") (194 : Nat))), (@PySem.DictEntry.mk (@PySem.PyData.keyHash P (@PySem.Str.ofString "__doc__")) (@PySem.Value.str (@PySem.Str.ofString "__doc__") (166 : Nat)) PySem.Value.none), (@PySem.DictEntry.mk (@PySem.PyData.keyHash P (@PySem.Str.ofString "__package__")) (@PySem.Value.str (@PySem.Str.ofString "__package__") (167 : Nat)) PySem.Value.none), (@PySem.DictEntry.mk (@PySem.PyData.keyHash P (@PySem.Str.ofString "__loader__")) (@PySem.Value.str (@PySem.Str.ofString "__loader__") (168 : Nat)) (@PySem.Value.builtin "__main__.__loader__#opaque")), (@PySem.DictEntry.mk (@PySem.PyData.keyHash P (@PySem.Str.ofString "__spec__")) (@PySem.Value.str (@PySem.Str.ofString "__spec__") (169 : Nat)) PySem.Value.none), (@PySem.DictEntry.mk (@PySem.PyData.keyHash P (@PySem.Str.ofString "__annotations__")) (@PySem.Value.str (@PySem.Str.ofString "__annotations__") (170 : Nat)) (@PySem.Value.ref (6 : Nat))), (@PySem.DictEntry.mk (@PySem.PyData.keyHash P (@PySem.Str.ofString "__builtins__")) (@PySem.Value.str (@PySem.Str.ofString "__builtins__") (171 : Nat)) (@PySem.Value.ref (4 : Nat))), (@PySem.DictEntry.mk (@PySem.PyData.keyHash P (@PySem.Str.ofString "__file__")) (@PySem.Value.str (@PySem.Str.ofString "__file__") (173 : Nat)) (@PySem.Value.str (@PySem.Str.ofString "/claim/cut.py") (172 : Nat))), (@PySem.DictEntry.mk (@PySem.PyData.keyHash P (@PySem.Str.ofString "__cached__")) (@PySem.Value.str (@PySem.Str.ofString "__cached__") (174 : Nat)) PySem.Value.none), (@PySem.DictEntry.mk (@PySem.PyData.keyHash P (@PySem.Str.ofString "_wall")) (@PySem.Value.str (@PySem.Str.ofString "_wall") (193 : Nat)) (@PySem.Value.ref (21 : Nat))), (@PySem.DictEntry.mk (@PySem.PyData.keyHash P (@PySem.Str.ofString "_is_int")) (@PySem.Value.str (@PySem.Str.ofString "_is_int") (203 : Nat)) (@PySem.Value.ref (28 : Nat))), (@PySem.DictEntry.mk (@PySem.PyData.keyHash P (@PySem.Str.ofString "_whole")) (@PySem.Value.str (@PySem.Str.ofString "_whole") (212 : Nat)) (@PySem.Value.ref (35 : Nat))), (@PySem.DictEntry.mk (@PySem.PyData.keyHash P (@PySem.Str.ofString "islice")) (@PySem.Value.str (@PySem.Str.ofString "islice") (280 : Nat)) (@PySem.Value.ref (68 : Nat))), (@PySem.DictEntry.mk (@PySem.PyData.keyHash P (@PySem.Str.ofString "filterfalse")) (@PySem.Value.str (@PySem.Str.ofString "filterfalse") (330 : Nat)) (@PySem.Value.ref (108 : Nat)))] (14 : Nat)) #[]) (@PySem.Obj.mk PySem.Value.none none (@PySem.Data.fields #[(@PySem.Value.int (1 : Int) (0 : Nat)), (@PySem.Value.int (0 : Int) (0 : Nat)), (@PySem.Value.ref (20 : Nat)), (@PySem.Value.int (5 : Int) (0 : Nat)), (@PySem.Value.int (0 : Int) (0 : Nat)), (@PySem.Value.ref (27 : Nat)), (@PySem.Value.int (8 : Int) (0 : Nat)), (@PySem.Value.int (0 : Int) (0 : Nat)), (@PySem.Value.ref (34 : Nat)), (@PySem.Value.int (13 : Int) (0 : Nat)), (@PySem.Value.int (0 : Int) (0 : Nat)), (@PySem.Value.ref (41 : Nat)), (@PySem.Value.int (70 : Int) (0 : Nat)), (@PySem.Value.int (0 : Int) (0 : Nat)), (@PySem.Value.ref (81 : Nat))]) #[])) 113 9 1 0
noncomputable abbrev st3 (w : World) (os : OsState) : SharedT := ⟨tr3 w.params, 113, life0, Array.mk [], (@PySem.Drawn.mk (0 : Nat) (0 : Nat) (0 : Nat) (0 : Nat)), 331, os⟩
noncomputable abbrev sh3 (w : World) (os : OsState) : Shared := (st3 w os).abs
noncomputable def tr4 (P : Params) : BT := mkT (obAt (obs P) (@PySem.Obj.mk (@PySem.Value.type "dict") none (@PySem.Data.dict #[(@PySem.DictEntry.mk (@PySem.PyData.keyHash P (@PySem.Str.ofString "__name__")) (@PySem.Value.str (@PySem.Str.ofString "__name__") (165 : Nat)) (@PySem.Value.str (@PySem.Str.ofString "cpy313.zipfile._path") (373 : Nat))), (@PySem.DictEntry.mk (@PySem.PyData.keyHash P (@PySem.Str.ofString "__doc__")) (@PySem.Value.str (@PySem.Str.ofString "__doc__") (166 : Nat)) PySem.Value.none), (@PySem.DictEntry.mk (@PySem.PyData.keyHash P (@PySem.Str.ofString "__package__")) (@PySem.Value.str (@PySem.Str.ofString "__package__") (167 : Nat)) PySem.Value.none), (@PySem.DictEntry.mk (@PySem.PyData.keyHash P (@PySem.Str.ofString "__loader__")) (@PySem.Value.str (@PySem.Str.ofString "__loader__") (168 : Nat)) (@PySem.Value.builtin "__main__.__loader__#opaque")), (@PySem.DictEntry.mk (@PySem.PyData.keyHash P (@PySem.Str.ofString "__spec__")) (@PySem.Value.str (@PySem.Str.ofString "__spec__") (169 : Nat)) PySem.Value.none), (@PySem.DictEntry.mk (@PySem.PyData.keyHash P (@PySem.Str.ofString "__annotations__")) (@PySem.Value.str (@PySem.Str.ofString "__annotations__") (170 : Nat)) (@PySem.Value.ref (6 : Nat))), (@PySem.DictEntry.mk (@PySem.PyData.keyHash P (@PySem.Str.ofString "__builtins__")) (@PySem.Value.str (@PySem.Str.ofString "__builtins__") (171 : Nat)) (@PySem.Value.ref (4 : Nat))), (@PySem.DictEntry.mk (@PySem.PyData.keyHash P (@PySem.Str.ofString "__file__")) (@PySem.Value.str (@PySem.Str.ofString "__file__") (173 : Nat)) (@PySem.Value.str (@PySem.Str.ofString "/claim/cut.py") (172 : Nat))), (@PySem.DictEntry.mk (@PySem.PyData.keyHash P (@PySem.Str.ofString "__cached__")) (@PySem.Value.str (@PySem.Str.ofString "__cached__") (174 : Nat)) PySem.Value.none), (@PySem.DictEntry.mk (@PySem.PyData.keyHash P (@PySem.Str.ofString "_wall")) (@PySem.Value.str (@PySem.Str.ofString "_wall") (193 : Nat)) (@PySem.Value.ref (21 : Nat))), (@PySem.DictEntry.mk (@PySem.PyData.keyHash P (@PySem.Str.ofString "_is_int")) (@PySem.Value.str (@PySem.Str.ofString "_is_int") (203 : Nat)) (@PySem.Value.ref (28 : Nat))), (@PySem.DictEntry.mk (@PySem.PyData.keyHash P (@PySem.Str.ofString "_whole")) (@PySem.Value.str (@PySem.Str.ofString "_whole") (212 : Nat)) (@PySem.Value.ref (35 : Nat))), (@PySem.DictEntry.mk (@PySem.PyData.keyHash P (@PySem.Str.ofString "islice")) (@PySem.Value.str (@PySem.Str.ofString "islice") (280 : Nat)) (@PySem.Value.ref (68 : Nat))), (@PySem.DictEntry.mk (@PySem.PyData.keyHash P (@PySem.Str.ofString "filterfalse")) (@PySem.Value.str (@PySem.Str.ofString "filterfalse") (330 : Nat)) (@PySem.Value.ref (108 : Nat))), (@PySem.DictEntry.mk (@PySem.PyData.keyHash P (@PySem.Str.ofString "_parents")) (@PySem.Value.str (@PySem.Str.ofString "_parents") (339 : Nat)) (@PySem.Value.ref (119 : Nat))), (@PySem.DictEntry.mk (@PySem.PyData.keyHash P (@PySem.Str.ofString "sep")) (@PySem.Value.str (@PySem.Str.ofString "sep") (343 : Nat)) (@PySem.Value.str (@PySem.Str.ofString "/") (342 : Nat))), (@PySem.DictEntry.mk (@PySem.PyData.keyHash P (@PySem.Str.ofString "_kind")) (@PySem.Value.str (@PySem.Str.ofString "_kind") (352 : Nat)) (@PySem.Value.ref (126 : Nat))), (@PySem.DictEntry.mk (@PySem.PyData.keyHash P (@PySem.Str.ofString "_fspath")) (@PySem.Value.str (@PySem.Str.ofString "_fspath") (361 : Nat)) (@PySem.Value.ref (133 : Nat))), (@PySem.DictEntry.mk (@PySem.PyData.keyHash P (@PySem.Str.ofString "split")) (@PySem.Value.str (@PySem.Str.ofString "split") (372 : Nat)) (@PySem.Value.ref (140 : Nat))), (@PySem.DictEntry.mk (@PySem.PyData.keyHash P (@PySem.Str.ofString "_ancestry")) (@PySem.Value.str (@PySem.Str.ofString "_ancestry") (382 : Nat)) (@PySem.Value.ref (147 : Nat))), (@PySem.DictEntry.mk (@PySem.PyData.keyHash P (@PySem.Str.ofString "_difference")) (@PySem.Value.str (@PySem.Str.ofString "_difference") (390 : Nat)) (@PySem.Value.ref (154 : Nat)))] (21 : Nat)) #[]) (@PySem.Obj.mk PySem.Value.none none (@PySem.Data.fields #[(@PySem.Value.int (1 : Int) (0 : Nat)), (@PySem.Value.int (0 : Int) (0 : Nat)), (@PySem.Value.ref (20 : Nat)), (@PySem.Value.int (5 : Int) (0 : Nat)), (@PySem.Value.int (0 : Int) (0 : Nat)), (@PySem.Value.ref (27 : Nat)), (@PySem.Value.int (8 : Int) (0 : Nat)), (@PySem.Value.int (0 : Int) (0 : Nat)), (@PySem.Value.ref (34 : Nat)), (@PySem.Value.int (13 : Int) (0 : Nat)), (@PySem.Value.int (0 : Int) (0 : Nat)), (@PySem.Value.ref (41 : Nat)), (@PySem.Value.int (70 : Int) (0 : Nat)), (@PySem.Value.int (0 : Int) (0 : Nat)), (@PySem.Value.ref (81 : Nat)), (@PySem.Value.int (90 : Int) (0 : Nat)), (@PySem.Value.int (0 : Int) (0 : Nat)), (@PySem.Value.ref (118 : Nat)), (@PySem.Value.int (94 : Int) (0 : Nat)), (@PySem.Value.int (0 : Int) (0 : Nat)), (@PySem.Value.ref (125 : Nat)), (@PySem.Value.int (115 : Int) (0 : Nat)), (@PySem.Value.int (0 : Int) (0 : Nat)), (@PySem.Value.ref (132 : Nat)), (@PySem.Value.int (120 : Int) (0 : Nat)), (@PySem.Value.int (0 : Int) (0 : Nat)), (@PySem.Value.ref (139 : Nat)), (@PySem.Value.int (129 : Int) (0 : Nat)), (@PySem.Value.int (0 : Int) (0 : Nat)), (@PySem.Value.ref (146 : Nat)), (@PySem.Value.int (134 : Int) (0 : Nat)), (@PySem.Value.int (0 : Int) (0 : Nat)), (@PySem.Value.ref (153 : Nat))]) #[])) 155 9 1 0
noncomputable abbrev st4 (w : World) (os : OsState) : SharedT := ⟨tr4 w.params, 155, life0, Array.mk [], (@PySem.Drawn.mk (0 : Nat) (0 : Nat) (0 : Nat) (0 : Nat)), 391, os⟩
noncomputable abbrev sh4 (w : World) (os : OsState) : Shared := (st4 w os).abs
noncomputable def tr5 (P : Params) : BT := mkT (obAt (obs P) (@PySem.Obj.mk (@PySem.Value.type "dict") none (@PySem.Data.dict #[(@PySem.DictEntry.mk (@PySem.PyData.keyHash P (@PySem.Str.ofString "__name__")) (@PySem.Value.str (@PySem.Str.ofString "__name__") (165 : Nat)) (@PySem.Value.str (@PySem.Str.ofString "law_ij0156_01") (430 : Nat))), (@PySem.DictEntry.mk (@PySem.PyData.keyHash P (@PySem.Str.ofString "__doc__")) (@PySem.Value.str (@PySem.Str.ofString "__doc__") (166 : Nat)) PySem.Value.none), (@PySem.DictEntry.mk (@PySem.PyData.keyHash P (@PySem.Str.ofString "__package__")) (@PySem.Value.str (@PySem.Str.ofString "__package__") (167 : Nat)) PySem.Value.none), (@PySem.DictEntry.mk (@PySem.PyData.keyHash P (@PySem.Str.ofString "__loader__")) (@PySem.Value.str (@PySem.Str.ofString "__loader__") (168 : Nat)) (@PySem.Value.builtin "__main__.__loader__#opaque")), (@PySem.DictEntry.mk (@PySem.PyData.keyHash P (@PySem.Str.ofString "__spec__")) (@PySem.Value.str (@PySem.Str.ofString "__spec__") (169 : Nat)) PySem.Value.none), (@PySem.DictEntry.mk (@PySem.PyData.keyHash P (@PySem.Str.ofString "__annotations__")) (@PySem.Value.str (@PySem.Str.ofString "__annotations__") (170 : Nat)) (@PySem.Value.ref (6 : Nat))), (@PySem.DictEntry.mk (@PySem.PyData.keyHash P (@PySem.Str.ofString "__builtins__")) (@PySem.Value.str (@PySem.Str.ofString "__builtins__") (171 : Nat)) (@PySem.Value.ref (4 : Nat))), (@PySem.DictEntry.mk (@PySem.PyData.keyHash P (@PySem.Str.ofString "__file__")) (@PySem.Value.str (@PySem.Str.ofString "__file__") (173 : Nat)) (@PySem.Value.str (@PySem.Str.ofString "/claim/cut.py") (172 : Nat))), (@PySem.DictEntry.mk (@PySem.PyData.keyHash P (@PySem.Str.ofString "__cached__")) (@PySem.Value.str (@PySem.Str.ofString "__cached__") (174 : Nat)) PySem.Value.none), (@PySem.DictEntry.mk (@PySem.PyData.keyHash P (@PySem.Str.ofString "_wall")) (@PySem.Value.str (@PySem.Str.ofString "_wall") (193 : Nat)) (@PySem.Value.ref (21 : Nat))), (@PySem.DictEntry.mk (@PySem.PyData.keyHash P (@PySem.Str.ofString "_is_int")) (@PySem.Value.str (@PySem.Str.ofString "_is_int") (203 : Nat)) (@PySem.Value.ref (28 : Nat))), (@PySem.DictEntry.mk (@PySem.PyData.keyHash P (@PySem.Str.ofString "_whole")) (@PySem.Value.str (@PySem.Str.ofString "_whole") (212 : Nat)) (@PySem.Value.ref (35 : Nat))), (@PySem.DictEntry.mk (@PySem.PyData.keyHash P (@PySem.Str.ofString "islice")) (@PySem.Value.str (@PySem.Str.ofString "islice") (280 : Nat)) (@PySem.Value.ref (68 : Nat))), (@PySem.DictEntry.mk (@PySem.PyData.keyHash P (@PySem.Str.ofString "filterfalse")) (@PySem.Value.str (@PySem.Str.ofString "filterfalse") (330 : Nat)) (@PySem.Value.ref (108 : Nat))), (@PySem.DictEntry.mk (@PySem.PyData.keyHash P (@PySem.Str.ofString "_parents")) (@PySem.Value.str (@PySem.Str.ofString "_parents") (339 : Nat)) (@PySem.Value.ref (119 : Nat))), (@PySem.DictEntry.mk (@PySem.PyData.keyHash P (@PySem.Str.ofString "sep")) (@PySem.Value.str (@PySem.Str.ofString "sep") (343 : Nat)) (@PySem.Value.str (@PySem.Str.ofString "/") (342 : Nat))), (@PySem.DictEntry.mk (@PySem.PyData.keyHash P (@PySem.Str.ofString "_kind")) (@PySem.Value.str (@PySem.Str.ofString "_kind") (352 : Nat)) (@PySem.Value.ref (126 : Nat))), (@PySem.DictEntry.mk (@PySem.PyData.keyHash P (@PySem.Str.ofString "_fspath")) (@PySem.Value.str (@PySem.Str.ofString "_fspath") (361 : Nat)) (@PySem.Value.ref (133 : Nat))), (@PySem.DictEntry.mk (@PySem.PyData.keyHash P (@PySem.Str.ofString "split")) (@PySem.Value.str (@PySem.Str.ofString "split") (372 : Nat)) (@PySem.Value.ref (140 : Nat))), (@PySem.DictEntry.mk (@PySem.PyData.keyHash P (@PySem.Str.ofString "_ancestry")) (@PySem.Value.str (@PySem.Str.ofString "_ancestry") (382 : Nat)) (@PySem.Value.ref (147 : Nat))), (@PySem.DictEntry.mk (@PySem.PyData.keyHash P (@PySem.Str.ofString "_difference")) (@PySem.Value.str (@PySem.Str.ofString "_difference") (390 : Nat)) (@PySem.Value.ref (154 : Nat))), (@PySem.DictEntry.mk (@PySem.PyData.keyHash P (@PySem.Str.ofString "_ctoi")) (@PySem.Value.str (@PySem.Str.ofString "_ctoi") (399 : Nat)) (@PySem.Value.ref (161 : Nat))), (@PySem.DictEntry.mk (@PySem.PyData.keyHash P (@PySem.Str.ofString "isprint")) (@PySem.Value.str (@PySem.Str.ofString "isprint") (406 : Nat)) (@PySem.Value.ref (168 : Nat))), (@PySem.DictEntry.mk (@PySem.PyData.keyHash P (@PySem.Str.ofString "ctrl")) (@PySem.Value.str (@PySem.Str.ofString "ctrl") (413 : Nat)) (@PySem.Value.ref (175 : Nat))), (@PySem.DictEntry.mk (@PySem.PyData.keyHash P (@PySem.Str.ofString "alt")) (@PySem.Value.str (@PySem.Str.ofString "alt") (420 : Nat)) (@PySem.Value.ref (182 : Nat))), (@PySem.DictEntry.mk (@PySem.PyData.keyHash P (@PySem.Str.ofString "unctrl")) (@PySem.Value.str (@PySem.Str.ofString "unctrl") (429 : Nat)) (@PySem.Value.ref (189 : Nat))), (@PySem.DictEntry.mk (@PySem.PyData.keyHash P (@PySem.Str.ofString "_law_rows")) (@PySem.Value.str (@PySem.Str.ofString "_law_rows") (441 : Nat)) (@PySem.Value.ref (196 : Nat))), (@PySem.DictEntry.mk (@PySem.PyData.keyHash P (@PySem.Str.ofString "_law_octets")) (@PySem.Value.str (@PySem.Str.ofString "_law_octets") (451 : Nat)) (@PySem.Value.ref (203 : Nat))), (@PySem.DictEntry.mk (@PySem.PyData.keyHash P (@PySem.Str.ofString "_law_sign")) (@PySem.Value.str (@PySem.Str.ofString "_law_sign") (458 : Nat)) (@PySem.Value.ref (210 : Nat))), (@PySem.DictEntry.mk (@PySem.PyData.keyHash P (@PySem.Str.ofString "_law_read")) (@PySem.Value.str (@PySem.Str.ofString "_law_read") (464 : Nat)) (@PySem.Value.ref (215 : Nat))), (@PySem.DictEntry.mk (@PySem.PyData.keyHash P (@PySem.Str.ofString "law")) (@PySem.Value.str (@PySem.Str.ofString "law") (470 : Nat)) (@PySem.Value.ref (220 : Nat)))] (31 : Nat)) #[]) (@PySem.Obj.mk PySem.Value.none none (@PySem.Data.fields #[(@PySem.Value.int (1 : Int) (0 : Nat)), (@PySem.Value.int (0 : Int) (0 : Nat)), (@PySem.Value.ref (20 : Nat)), (@PySem.Value.int (5 : Int) (0 : Nat)), (@PySem.Value.int (0 : Int) (0 : Nat)), (@PySem.Value.ref (27 : Nat)), (@PySem.Value.int (8 : Int) (0 : Nat)), (@PySem.Value.int (0 : Int) (0 : Nat)), (@PySem.Value.ref (34 : Nat)), (@PySem.Value.int (13 : Int) (0 : Nat)), (@PySem.Value.int (0 : Int) (0 : Nat)), (@PySem.Value.ref (41 : Nat)), (@PySem.Value.int (70 : Int) (0 : Nat)), (@PySem.Value.int (0 : Int) (0 : Nat)), (@PySem.Value.ref (81 : Nat)), (@PySem.Value.int (90 : Int) (0 : Nat)), (@PySem.Value.int (0 : Int) (0 : Nat)), (@PySem.Value.ref (118 : Nat)), (@PySem.Value.int (94 : Int) (0 : Nat)), (@PySem.Value.int (0 : Int) (0 : Nat)), (@PySem.Value.ref (125 : Nat)), (@PySem.Value.int (115 : Int) (0 : Nat)), (@PySem.Value.int (0 : Int) (0 : Nat)), (@PySem.Value.ref (132 : Nat)), (@PySem.Value.int (120 : Int) (0 : Nat)), (@PySem.Value.int (0 : Int) (0 : Nat)), (@PySem.Value.ref (139 : Nat)), (@PySem.Value.int (129 : Int) (0 : Nat)), (@PySem.Value.int (0 : Int) (0 : Nat)), (@PySem.Value.ref (146 : Nat)), (@PySem.Value.int (134 : Int) (0 : Nat)), (@PySem.Value.int (0 : Int) (0 : Nat)), (@PySem.Value.ref (153 : Nat)), (@PySem.Value.int (137 : Int) (0 : Nat)), (@PySem.Value.int (0 : Int) (0 : Nat)), (@PySem.Value.ref (160 : Nat)), (@PySem.Value.int (142 : Int) (0 : Nat)), (@PySem.Value.int (0 : Int) (0 : Nat)), (@PySem.Value.ref (167 : Nat)), (@PySem.Value.int (144 : Int) (0 : Nat)), (@PySem.Value.int (0 : Int) (0 : Nat)), (@PySem.Value.ref (174 : Nat)), (@PySem.Value.int (149 : Int) (0 : Nat)), (@PySem.Value.int (0 : Int) (0 : Nat)), (@PySem.Value.ref (181 : Nat)), (@PySem.Value.int (154 : Int) (0 : Nat)), (@PySem.Value.int (0 : Int) (0 : Nat)), (@PySem.Value.ref (188 : Nat)), (@PySem.Value.int (166 : Int) (0 : Nat)), (@PySem.Value.int (0 : Int) (0 : Nat)), (@PySem.Value.ref (195 : Nat)), (@PySem.Value.int (180 : Int) (0 : Nat)), (@PySem.Value.int (0 : Int) (0 : Nat)), (@PySem.Value.ref (202 : Nat)), (@PySem.Value.int (189 : Int) (0 : Nat)), (@PySem.Value.int (0 : Int) (0 : Nat)), (@PySem.Value.ref (209 : Nat)), (@PySem.Value.int (197 : Int) (0 : Nat)), (@PySem.Value.int (0 : Int) (0 : Nat)), (@PySem.Value.ref (214 : Nat)), (@PySem.Value.int (199 : Int) (0 : Nat)), (@PySem.Value.int (0 : Int) (0 : Nat)), (@PySem.Value.ref (219 : Nat))]) #[])) 221 9 1 0
noncomputable abbrev st5 (w : World) (os : OsState) : SharedT := ⟨tr5 w.params, 221, life0, Array.mk [], (@PySem.Drawn.mk (0 : Nat) (0 : Nat) (0 : Nat) (0 : Nat)), 471, os⟩
noncomputable abbrev sh5 (w : World) (os : OsState) : Shared := (st5 w os).abs
noncomputable abbrev hp5 (P : Params) : Heap := absHeap (tr5 P) 221 life0
noncomputable def sts0 : List Stmt := ((behindTheImports PW).drop 0).take 4
noncomputable def sts1 : List Stmt := ((behindTheImports PW).drop 4).take 1
noncomputable def sts2 : List Stmt := ((behindTheImports PW).drop 5).take 1
noncomputable def sts3 : List Stmt := ((behindTheImports PW).drop 6).take 10
noncomputable def sts4 : List Stmt := ((behindTheImports PW).drop 16).take 12
noncomputable abbrev topBody : List Stmt := (sts0 ++ (sts1 ++ (sts2 ++ (sts3 ++ (sts4 ++ [])))))
noncomputable abbrev topEnv : Env := { scope := PW.main.scope, locals := mainNs, globals := mainNs, cells := [], code := (@PySem.Value.ref (13 : Nat)), frame := some (14 : Nat) }
noncomputable abbrev topCode : Code := .body topBody topEnv
abbrev topQ : Pos := (@PySem.Pos.mk (0 : Nat) (0 : Nat) (0 : Nat) (0 : Nat))
theorem lf_open : opening PW = plainProg PW.main.scope.names := by kernel_rfl
theorem lf_fence : ∀ s, fenceModules? PW s = some s := fun _ => by kernel_rfl
theorem lf_size (w : World) : ((boot_heap w.params).isNs mainGlobals && (Array.mk [] : Array GenState).size == 0, (boot_heap w.params).objs.size, (boot_heap w.params).nsMap mainGlobals "__annotations__") = (true, 11, (some (@PySem.Value.ref (6 : Nat)))) := by kernel_rfl
theorem lf_pre (w : World) (os : OsState) : topGo treeTable PW w 11 (some (@PySem.Value.ref (6 : Nat))) 12 ⟨boot_heap w.params, Array.mk [], boot_drawn, boot_toks, os⟩ (topStub PW) = some (sh0 w os, ⟨denote treeTable topCode, topCode, (@PySem.Pos.mk (0 : Nat) (0 : Nat) (0 : Nat) (0 : Nat)), [topFrame topQ]⟩) := by kernel_rfl
theorem lf_block (w : World) (os : OsState) : segRun treeTable PW w 11 (some (@PySem.Value.ref (6 : Nat))) 1 1 (sh0 w os) (blockOf topBody topEnv topCode (@PySem.Pos.mk (0 : Nat) (0 : Nat) (0 : Nat) (0 : Nat)) [topFrame topQ]) = some (.next, sh0 w os, topCode, (@PySem.Pos.mk (0 : Nat) (0 : Nat) (0 : Nat) (0 : Nat))) := by kernel_rfl
theorem lf_piece0 (w : World) (os : OsState) : segRunT treeTable PW w 11 (some (@PySem.Value.ref (6 : Nat))) 1 100 (st0 w os) (piecesOf sts0 topEnv topCode (@PySem.Pos.mk (0 : Nat) (0 : Nat) (0 : Nat) (0 : Nat)) [topFrame topQ]) = some (.next, st1 w os, topCode, (@PySem.Pos.mk (8 : Nat) (0 : Nat) (12 : Nat) (16 : Nat))) := by kernel_rfl
theorem lf_piece1 (w : World) (os : OsState) : segRunT treeTable PW w 11 (some (@PySem.Value.ref (6 : Nat))) 1 357 (st1 w os) (piecesOf sts1 topEnv topCode (@PySem.Pos.mk (8 : Nat) (0 : Nat) (12 : Nat) (16 : Nat)) [topFrame topQ]) = some (.next, st2 w os, topCode, (@PySem.Pos.mk (13 : Nat) (0 : Nat) (69 : Nat) (19 : Nat))) := by kernel_rfl
theorem lf_piece2 (w : World) (os : OsState) : segRunT treeTable PW w 11 (some (@PySem.Value.ref (6 : Nat))) 1 318 (st2 w os) (piecesOf sts2 topEnv topCode (@PySem.Pos.mk (13 : Nat) (0 : Nat) (69 : Nat) (19 : Nat)) [topFrame topQ]) = some (.next, st3 w os, topCode, (@PySem.Pos.mk (70 : Nat) (0 : Nat) (88 : Nat) (27 : Nat))) := by kernel_rfl
theorem lf_piece3 (w : World) (os : OsState) : segRunT treeTable PW w 11 (some (@PySem.Value.ref (6 : Nat))) 1 221 (st3 w os) (piecesOf sts3 topEnv topCode (@PySem.Pos.mk (70 : Nat) (0 : Nat) (88 : Nat) (27 : Nat)) [topFrame topQ]) = some (.next, st4 w os, topCode, (@PySem.Pos.mk (134 : Nat) (0 : Nat) (135 : Nat) (61 : Nat))) := by kernel_rfl
theorem lf_piece4 (w : World) (os : OsState) : segRunT treeTable PW w 11 (some (@PySem.Value.ref (6 : Nat))) 1 311 (st4 w os) (piecesOf sts4 topEnv topCode (@PySem.Pos.mk (134 : Nat) (0 : Nat) (135 : Nat) (61 : Nat)) [topFrame topQ]) = some (.next, st5 w os, topCode, (@PySem.Pos.mk (199 : Nat) (0 : Nat) (221 : Nat) (102 : Nat))) := by kernel_rfl
theorem lf_fin (w : World) (os : OsState) : topRun treeTable PW w 11 (some (@PySem.Value.ref (6 : Nat))) 2 (sh5 w os) ⟨doneF .next, topCode, (@PySem.Pos.mk (199 : Nat) (0 : Nat) (221 : Nat) (102 : Nat)), [topFrame topQ]⟩ = some (sh5 w os) := by kernel_rfl
theorem lf_run (w : World) (os : OsState) : topRun treeTable PW w 11 (some (@PySem.Value.ref (6 : Nat))) (12 + (1 + (100 + (357 + (318 + (221 + (311 + 2))))))) ⟨boot_heap w.params, Array.mk [], boot_drawn, boot_toks, os⟩ (topStub PW) = some (sh5 w os) :=
  go_top (lf_pre w os) (piece_block (lf_block w os) (piece_app (segRun_of (lf_piece0 w os)) (piece_app (segRun_of (lf_piece1 w os)) (piece_app (segRun_of (lf_piece2 w os)) (piece_app (segRun_of (lf_piece3 w os)) (piece_app (segRun_of (lf_piece4 w os)) (piece_nil (lf_fin w os))))))))
theorem lf_looks (w : World) : (fun os => ((staticsOk (importedModules PW.main.body) (boot_heap w.params) (hp5 w.params) && namesBound PW (hp5 w.params) && gensDone (sh5 w os) && laidKept (boot_heap w.params) (hp5 w.params)), openSeen hd.view_39 loose0 (importedModules PW.main.body) (fun s => xlAt hd.view_39 [] s && recOk (RowW.records PySem.Challenge.rw_ij0156_01.row.toRowW) s) true (sh5 w os), hook.obs (sh5 w os))) = fun _ => (true, openGood hd.view_39 loose0, hook.val w) := by kernel_rfl
theorem left0 : LeftO PW hd.view_39 loose0 (fun s => xlAt hd.view_39 [] s && recOk (RowW.records PySem.Challenge.rw_ij0156_01.row.toRowW) s) hook.obs hook.val 2730 :=
  LeftO.of_pieces (H₀ := boot_heap) (H₁ := hp5) (boot_open lf_open rfl lf_fence) lf_size lf_run (by decide) lf_looks
end Lf
end Mine

open PySem.Calls

namespace Mine
noncomputable abbrev PP := PySem.Challenge.rw_ij0156_01.row.toRowW.prog
noncomputable abbrev HK (w : World) : Frag := hd.heap_39 w.params
abbrev TP (mean : ExcName → Option Value) (mg mb : Str → Option Value) (h : Heap) : Prop :=
  Top hd.view_39 (looseW hd.view_39 [Str.ofString "islice", Str.ofString "filterfalse"]) mean mg mb h

/-- what every state of the call knows of the top -/
structure Gnd (w : World) (h : Heap) : Prop where
  K : (hd.heap_39 w.params).In h
  T : ∃ mean mg mb, TP mean mg mb h

theorem Gnd.keeps {w : World} {h h' : Heap} (G : Gnd w h) (k : ∀ b o, h.get? b = some o → h'.get? b = some o) : Gnd w h' :=
  ⟨G.K.keeps k, let ⟨a, b, c, T⟩ := G.T; ⟨a, b, c, T.keeps k⟩⟩

/-- no exception is being handled -/
abbrev Ar (dp un : Nat) (fr : Option (List Env)) (gd : Option (List Code)) : Around := ⟨none, dp, fr, gd, un⟩
section
variable {prog : Program} {w : World} {A : Around} {s : Shared} {R : Result → Shared → Prop}
theorem enter {name qual : Str} {params : Arguments} {body : List Stmt} {scope : Scope} {dV kV doc pm cdv ct oc : Value} {an od : Option Addr} {osl : Array (Option Value)} {f : Addr} {args : Args} {binds : List (Str × Value)}
    {K : Frag} {p : Program} {loose : List Str} {mean : ExcName → Option Value} {mg mb : Str → Option Value}
    (X : K.In s.heap) (T : Top p loose mean mg mb s.heap)
    (ho : K.lookup f = some ⟨oc, od, .func (fnOf name qual params body scope dV kV doc pm an cdv ct), osl⟩) (hcd : codeIn K cdv qual = true) (hroom : A.depth < recursionLimit)
    (hbind : BindsTo s (fnOf name qual params body scope dV kV doc pm an cdv ct) args binds) (hloc : ∀ y ∈ binds, scope.names.lookup y.1 = some .local)
    (h : ∀ L h₁, L = s.heap.objs.size → Fr s.heap L h₁ (fun y => binds.reverse.lookup y) → News s.heap L h₁ [] →
      wpAny (model prog w) (A.deeper (envOf qual scope L f cdv)) (execs body (envOf qual scope L f cdv))
        (fun fl s' => R (.ok (.ret (match fl with | .ret v => v | _ => .none))) s')
        (fun e s' => wpAny (model prog w) (A.deeper (envOf qual scope L f cdv)) (leaving (envOf qual scope L f cdv) e) (fun _ s'' => R (.error e) s'') (fun e' s'' => R (.error e') s'') s')
        { s with heap := h₁, toks := s.toks + binds.length })
    (hco : scope.isCoroutine = false := by rfl) (hgen : scope.isGenerator = false := by rfl) (hk : scope.kind = .function := by rfl)
    (hcell : ∀ x ∈ scope.names, x.2 ≠ .cell := by decide) : codeAny (model prog w) A (.call (.ref f) args) R s := by
  refine codeAny_call_def (fd := fnOf name qual params body scope dV kV doc pm an cdv ct) hroom (X _ _ ho) rfl T.nolimit (codeRec_of X hcd) rfl hbind hcell hloc (fun h₁ hn hk₁ => ?_) hco hgen hk
  exact h _ h₁ rfl ⟨hn, hk₁, Nat.le_refl _⟩ News.nil
end

theorem fill : (PySem.Challenge.rw_ij0156_01 = PySem.Challenge.rw_ij0156_01 ∧ hd.heap_39 = hd.heap_39) → True := by
  k_fill
  intro _; trivial
end Mine

namespace Mine

/-- a call that hands back a value and leaves what stood as it stood -/
noncomputable def Back (s : Shared) (Q : Value → Shared → Prop) (R : Tok → Value) : Prop :=
  ∀ t h' tk', (∀ b o, s.heap.get? b = some o → h'.get? b = some o) → Q (R t) { s with heap := h', toks := tk' }
theorem Back.of {s : Shared} {Q : Value → Shared → Prop} {R : Tok → Value} {h₀ : Heap} {L : Addr} {m : Str → Option Value} {news : List (Addr × Obj)} (F : Fr h₀ L s.heap m) (N : News h₀ L s.heap news)
    (k : ∀ t h' tk', Fr h₀ L h' m → News h₀ L h' news → Q (R t) { s with heap := h', toks := tk' }) : Back s Q R := fun t h' tk' st => k t h' tk' (F.keeps st) fun p hp => ⟨st _ _ (N p hp).1, (N p hp).2⟩

section
variable {w : World} {A : Around} {s : Shared} {Q E : Value → Shared → Prop}
theorem ctoi_str {c : Nat} {t : Tok} (G : Gnd w s.heap) (hdp : A.depth + 1 < recursionLimit) (hu : A.units + 10 < cLine) 
    (h : Back s Q (fun t => .int (c : Int) t)) :
    wpAny (model PP w) A (call (.ref 161) [.str ⟨#[c]⟩ t]) Q E s := by
  obtain ⟨X, mean, mg, mb, T⟩ := G
  refine wpAny_call ?_
  (refine' enter (binds := [(Str.ofString "c", .str ⟨#[c]⟩ t)]) X T ?k6 ?k7 ?k8 ?k9 ?kB ?_ ?c2 ?c3 ?c4 ?c5; (case k6 => k_is); (case k7 => k_is); (case k8 => (first | omega | (dsimp only [Ar]; omega) | (simp only [Around.in1_depth] at *; omega))); (case k9 => exact BindsTo.of_eq rfl); (case kB => exact locs rfl); (case c2 => exact rfl); (case c3 => exact rfl); (case c4 => exact rfl); (case c5 => decide); intro L h₁ hL F N)
  k_steps
  rename Fr _ _ _ _ => F
  exact h _ _ _ F.keep
theorem ctoi_int {i : Int} {t : Tok} (G : Gnd w s.heap) (hdp : A.depth + 1 < recursionLimit) (hu : A.units + 10 < cLine) 
    (h : Back s Q (fun t => .int i t)) :
    wpAny (model PP w) A (call (.ref 161) [.int i t]) Q E s := by
  obtain ⟨X, mean, mg, mb, T⟩ := G
  refine wpAny_call ?_
  (refine' enter (binds := [(Str.ofString "c", .int i t)]) X T ?k6 ?k7 ?k8 ?k9 ?kB ?_ ?c2 ?c3 ?c4 ?c5; (case k6 => k_is); (case k7 => k_is); (case k8 => (first | omega | (dsimp only [Ar]; omega) | (simp only [Around.in1_depth] at *; omega))); (case k9 => exact BindsTo.of_eq rfl); (case kB => exact locs rfl); (case c2 => exact rfl); (case c3 => exact rfl); (case c4 => exact rfl); (case c5 => decide); intro L h₁ hL F N)
  k_steps
  rename Fr _ _ _ _ => F
  exact h _ _ _ F.keep

local macro_rules | `(tactic| walk_at "call ref") => `(tactic| ((with_reducible show wpAny _ _ (call (Value.ref 161) [Value.int _ _]) _ _ _); (refine ctoi_int (Gnd.keeps ⟨by assumption, _, _, _, by assumption⟩ (Fr.keep (by assumption))) ?k1 ?k2 (Back.of (by assumption) (by assumption) ?_)); (case k1 => (first | omega | (simp only [depth_deeper, units_deeper]; omega) | (simp only [depth_deeper, units_deeper]; dsimp only [Ar]; omega) | (dsimp only [Ar, Around.deeper] at *; omega))); (case k2 => (first | omega | (simp only [depth_deeper, units_deeper]; omega) | (simp only [depth_deeper, units_deeper]; dsimp only [Ar]; omega) | (dsimp only [Ar, Around.deeper] at *; omega))); intro t' h' tk' F' N'))

theorem Back.fin {R : Tok → Value} {L : Addr} {m : Str → Option Value} {v : Value} {s' : Shared} (h : Back s Q R) (F : Fr s.heap L s'.heap m) (hg : s'.gens = s.gens) (hr : s'.drawn = s.drawn) (ho : s'.os = s.os) (e : ∃ t, v = R t) : Q v s' := by
  obtain ⟨t, rfl⟩ := e
  obtain ⟨h', g, d, tk, o⟩ := s'
  obtain rfl : g = s.gens := hg
  obtain rfl : d = s.drawn := hr
  obtain rfl : o = s.os := ho
  exact h t h' tk F.keep
theorem isprint_int {i : Int} {t : Tok} (G : Gnd w s.heap) (hdp : A.depth + 2 < recursionLimit) (hu : A.units + 20 < cLine) 
    (h : Back s Q (fun _ => .bool (decide (32 ≤ i ∧ i ≤ 126)))) :
    wpAny (model PP w) A (call (.ref 168) [.int i t]) Q E s := by
  obtain ⟨X, mean, mg, mb, T⟩ := G
  refine wpAny_call ?_
  (refine' enter (binds := [(Str.ofString "c", .int i t)]) X T ?k6 ?k7 ?k8 ?k9 ?kB ?_ ?c2 ?c3 ?c4 ?c5; (case k6 => k_is); (case k7 => k_is); (case k8 => (first | omega | (dsimp only [Ar]; omega) | (simp only [Around.in1_depth] at *; omega))); (case k9 => exact BindsTo.of_eq rfl); (case kB => exact locs rfl); (case c2 => exact rfl); (case c3 => exact rfl); (case c4 => exact rfl); (case c5 => decide); intro L h₁ hL F N)
  k_steps
  all_goals (rename Fr _ _ _ _ => F)
  · refine Back.fin h F rfl rfl rfl ⟨0, ?_⟩
    simp [*]
  · refine Back.fin h F rfl rfl rfl ⟨0, ?_⟩
    simp [*]
local macro_rules | `(tactic| walk_at "call ref") => `(tactic| ((with_reducible show wpAny _ _ (call (Value.ref 168) [Value.int _ _]) _ _ _); (refine isprint_int (Gnd.keeps ⟨by assumption, _, _, _, by assumption⟩ (Fr.keep (by assumption))) ?k1 ?k2 (Back.of (by assumption) (by assumption) ?_)); (case k1 => (first | omega | (simp only [depth_deeper, units_deeper]; omega) | (simp only [depth_deeper, units_deeper]; dsimp only [Ar]; omega) | (dsimp only [Ar, Around.deeper] at *; omega))); (case k2 => (first | omega | (simp only [depth_deeper, units_deeper]; omega) | (simp only [depth_deeper, units_deeper]; dsimp only [Ar]; omega) | (dsimp only [Ar, Around.deeper] at *; omega))); intro t' h' tk' F' N'))
local macro_rules | `(tactic| walk_at "call ref") => `(tactic| ((with_reducible show wpAny _ _ (call (Value.ref 161) [Value.str _ _]) _ _ _); (refine ctoi_str (Gnd.keeps ⟨by assumption, _, _, _, by assumption⟩ (Fr.keep (by assumption))) ?k1 ?k2 (Back.of (by assumption) (by assumption) ?_)); (case k1 => (first | omega | (simp only [depth_deeper, units_deeper]; omega) | (simp only [depth_deeper, units_deeper]; dsimp only [Ar]; omega) | (dsimp only [Ar, Around.deeper] at *; omega))); (case k2 => (first | omega | (simp only [depth_deeper, units_deeper]; omega) | (simp only [depth_deeper, units_deeper]; dsimp only [Ar]; omega) | (dsimp only [Ar, Around.deeper] at *; omega))); intro t' h' tk' F' N'))


noncomputable def rep (b : Int) : List Nat := if b = 127 then [94, 63] else if 32 ≤ b % 128 ∧ b % 128 ≤ 126 then [(b % 128).toNat] else if b % 128 = 127 then [94, 159] else [94, (b % 128).toNat + 64]
noncomputable def uText (b : Int) : List Nat := if 128 ≤ b % 256 then 33 :: rep b else rep b
inductive Thing where
  | int (i : Int)
  | sign (c : Nat)
noncomputable def Thing.bits : Thing → Int
  | .int i => i
  | .sign c => c
noncomputable def IsThing (v : Value) : Thing → Prop
  | .int i => ∃ t, v = .int i t
  | .sign c => ∃ t, v = .str ⟨#[c]⟩ t


theorem bit_facts (b : Int) : Builtin.bitAnd b 127 = b % 128 ∧ Builtin.bitAnd b 128 = (b / 128 % 2) * 128 ∧ Builtin.bitAnd (Builtin.bitAnd b 127) 32 = (Builtin.bitAnd b 127 / 32 % 2) * 32 ∧
    Builtin.bitOr (Builtin.bitAnd b 127) 32 = Builtin.bitAnd b 127 + 32 - Builtin.bitAnd (Builtin.bitAnd b 127) 32 :=
  ⟨bitAnd_m7 b, kbt_bit b 7, kbt_bit _ 5, bitOr_and _ _⟩

theorem unctrl_any {th : Thing} {v : Value} (hv : IsThing v th) (G : Gnd w s.heap) (hdp : A.depth + 3 < recursionLimit) (hu : A.units + 30 < cLine) 
    (h : Back s Q (fun t => .str ⟨(uText th.bits).toArray⟩ t)) :
    wpAny (model PP w) A (call (.ref 189) [v]) Q E s := by
  obtain ⟨X, mean, mg, mb, T⟩ := G
  cases th with
  | int i =>
    obtain ⟨t, rfl⟩ := hv
    obtain ⟨b1, b2, b3, b4⟩ := bit_facts i
    refine wpAny_call ?_
    (refine' enter (binds := [(Str.ofString "c", .int i t)]) X T ?k6 ?k7 ?k8 ?k9 ?kB ?_ ?c2 ?c3 ?c4 ?c5; (case k6 => k_is); (case k7 => k_is); (case k8 => (first | omega | (dsimp only [Ar]; omega) | (simp only [Around.in1_depth] at *; omega))); (case k9 => exact BindsTo.of_eq rfl); (case kB => exact locs rfl); (case c2 => exact rfl); (case c3 => exact rfl); (case c4 => exact rfl); (case c5 => decide); intro L h₁ hL F N)
    k_steps
    all_goals (try dsimp only)
    all_goals (rename Fr _ _ _ _ => F'; refine Back.fin h F' rfl rfl rfl ⟨_, congrArg (fun x => Value.str x _) ?_⟩; clear F' X T h)
    all_goals (simp only [Thing.bits, show Str.ofString "!" = ⟨#[33]⟩ from by decide, show Str.ofString "^" = ⟨#[94]⟩ from by decide, show Str.ofString "^?" = ⟨#[94, 63]⟩ from by decide])
    all_goals (refine Str.ext' ?_)
    all_goals (simp only [uText, rep, Str.cps_append, List.append_toArray, List.cons_append, List.nil_append])
    all_goals (repeat' split)
    all_goals first | rfl | (exfalso; omega) | (simp only [List.cons.injEq, and_true, true_and, List.append_toArray, List.cons_append, List.nil_append, Array.mk.injEq]; omega)
  | sign c =>
    obtain ⟨t, rfl⟩ := hv
    obtain ⟨b1, b2, b3, b4⟩ := bit_facts (c : Int)
    refine wpAny_call ?_
    (refine' enter (binds := [(Str.ofString "c", .str ⟨#[c]⟩ t)]) X T ?k6 ?k7 ?k8 ?k9 ?kB ?_ ?c2 ?c3 ?c4 ?c5; (case k6 => k_is); (case k7 => k_is); (case k8 => (first | omega | (dsimp only [Ar]; omega) | (simp only [Around.in1_depth] at *; omega))); (case k9 => exact BindsTo.of_eq rfl); (case kB => exact locs rfl); (case c2 => exact rfl); (case c3 => exact rfl); (case c4 => exact rfl); (case c5 => decide); intro L h₁ hL F N)
    k_steps
    all_goals (try dsimp only)
    all_goals (rename Fr _ _ _ _ => F'; refine Back.fin h F' rfl rfl rfl ⟨_, congrArg (fun x => Value.str x _) ?_⟩; clear F' X T h)
    all_goals (simp only [Thing.bits, show Str.ofString "!" = ⟨#[33]⟩ from by decide, show Str.ofString "^" = ⟨#[94]⟩ from by decide, show Str.ofString "^?" = ⟨#[94, 63]⟩ from by decide])
    all_goals (refine Str.ext' ?_)
    all_goals (simp only [uText, rep, Str.cps_append, List.append_toArray, List.cons_append, List.nil_append])
    all_goals (repeat' split)
    all_goals first | rfl | (exfalso; omega) | (simp only [List.cons.injEq, and_true, true_and, List.append_toArray, List.cons_append, List.nil_append, Array.mk.injEq]; omega)
end
end Mine

namespace Mine
section
variable {w : World} {A : Around} {s : Shared} {Q E : Value → Shared → Prop}
local macro_rules | `(tactic| walk_at "call ref") => `(tactic| ((with_reducible show wpAny _ _ (call (Value.ref 161) [Value.str _ _]) _ _ _); (refine ctoi_str (Gnd.keeps ⟨by assumption, _, _, _, by assumption⟩ (Fr.keep (by assumption))) ?k1 ?k2 (Back.of (by assumption) (by assumption) ?_)); (case k1 => (first | omega | (simp only [depth_deeper, units_deeper]; omega) | (simp only [depth_deeper, units_deeper]; dsimp only [Ar]; omega) | (dsimp only [Ar, Around.deeper] at *; omega))); (case k2 => (first | omega | (simp only [depth_deeper, units_deeper]; omega) | (simp only [depth_deeper, units_deeper]; dsimp only [Ar]; omega) | (dsimp only [Ar, Around.deeper] at *; omega))); intro t' h' tk' F' N'))

theorem ctrl_str {c : Nat} {t : Tok} (G : Gnd w s.heap) (hdp : A.depth + 2 < recursionLimit) (hu : A.units + 20 < cLine) 
    (h : Back s Q (fun t => .str ⟨#[c % 32]⟩ t)) :
    wpAny (model PP w) A (call (.ref 175) [.str ⟨#[c]⟩ t]) Q E s := by
  obtain ⟨X, mean, mg, mb, T⟩ := G
  have b1 := bitAnd_m5 (c : Int)
  refine wpAny_call ?_
  (refine' enter (binds := [(Str.ofString "c", .str ⟨#[c]⟩ t)]) X T ?k6 ?k7 ?k8 ?k9 ?kB ?_ ?c2 ?c3 ?c4 ?c5; (case k6 => k_is); (case k7 => k_is); (case k8 => (first | omega | (dsimp only [Ar]; omega) | (simp only [Around.in1_depth] at *; omega))); (case k9 => exact BindsTo.of_eq rfl); (case kB => exact locs rfl); (case c2 => exact rfl); (case c3 => exact rfl); (case c4 => exact rfl); (case c5 => decide); intro L h₁ hL F N)
  k_steps
  all_goals (try dsimp only)
  all_goals (rename Fr _ _ _ _ => F'; refine Back.fin h F' rfl rfl rfl ⟨_, congrArg (fun x => Value.str x _) ?_⟩; clear F' X T h)
  rw [b1]
  exact congrArg (fun n => Str.mk #[n]) (by omega)

theorem alt_str {c : Nat} {t : Tok} (hc : c < 128) (G : Gnd w s.heap) (hdp : A.depth + 2 < recursionLimit) (hu : A.units + 20 < cLine) 
    (h : Back s Q (fun t => .str ⟨#[c + 128]⟩ t)) :
    wpAny (model PP w) A (call (.ref 182) [.str ⟨#[c]⟩ t]) Q E s := by
  obtain ⟨X, mean, mg, mb, T⟩ := G
  have b1 := bitOr_and (c : Int) 128
  have b2 := kbt_bit (c : Int) 7
  have b3 : Builtin.bitOr (c : Int) 128 = c + 128 := by
    rw [b1, show (128 : Int) = 2 ^ 7 from by decide, b2]; omega
  clear b1 b2
  refine wpAny_call ?_
  (refine' enter (binds := [(Str.ofString "c", .str ⟨#[c]⟩ t)]) X T ?k6 ?k7 ?k8 ?k9 ?kB ?_ ?c2 ?c3 ?c4 ?c5; (case k6 => k_is); (case k7 => k_is); (case k8 => (first | omega | (dsimp only [Ar]; omega) | (simp only [Around.in1_depth] at *; omega))); (case k9 => exact BindsTo.of_eq rfl); (case kB => exact locs rfl); (case c2 => exact rfl); (case c3 => exact rfl); (case c4 => exact rfl); (case c5 => decide); intro L h₁ hL F N)
  k_steps
  all_goals (try dsimp only)
  all_goals (rename Fr _ _ _ _ => F'; refine Back.fin h F' rfl rfl rfl ⟨_, congrArg (fun x => Value.str x _) ?_⟩; clear F' X T h)
  rw [b3]
  exact congrArg (fun n => Str.mk #[n]) (by omega)

local macro_rules | `(tactic| walk_at "call ref") => `(tactic| ((with_reducible show wpAny _ _ (call (Value.ref 175) [Value.str _ _]) _ _ _); (refine ctrl_str (Gnd.keeps ⟨by assumption, _, _, _, by assumption⟩ (Fr.keep (by assumption))) ?k1 ?k2 (Back.of (by assumption) (by assumption) ?_)); (case k1 => (first | omega | (simp only [depth_deeper, units_deeper]; omega) | (simp only [depth_deeper, units_deeper]; dsimp only [Ar]; omega) | (dsimp only [Ar, Around.deeper] at *; omega))); (case k2 => (first | omega | (simp only [depth_deeper, units_deeper]; omega) | (simp only [depth_deeper, units_deeper]; dsimp only [Ar]; omega) | (dsimp only [Ar, Around.deeper] at *; omega))); intro t' h' tk' F' N'))
theorem item_head (a : Nat) (l : List Nat) : Txt.item ⟨(a :: l).toArray⟩ 0 = ⟨#[a]⟩ := by
  simp [Txt.item, Txt.charAt, seqIndex?, Str.length]
theorem charAt_snd (a b : Nat) (l : List Nat) : (Txt.charAt ⟨(a :: b :: l).toArray⟩ 1).getD 0 = b := by
  have : (1 : Int) < (l.length : Int) + 1 + 1 := by omega
  simp [Txt.charAt, seqIndex?, Str.length, this]
noncomputable def BaseWord (W : List Nat) (m : Nat) : Prop :=
  (32 ≤ m ∧ m ≤ 126 ∧ W = [m]) ∨ (m = 127 ∧ W = [94, 63]) ∨ (m = 127 ∧ W = [94, 159]) ∨ (m < 32 ∧ W = [94, m + 64])
theorem caretq : Str.ofString "^?" = ⟨#[94, 63]⟩ := by decide
theorem caret9 : Str.ofString "^\u009f" = ⟨#[94, 159]⟩ := by decide
theorem bang : Str.ofString "!" = ⟨#[33]⟩ := by decide
theorem caret : Str.ofString "^" = ⟨#[94]⟩ := by decide
theorem sign_base {W : List Nat} {m : Nat} {t : Tok} (hW : BaseWord W m) (G : Gnd w s.heap) (hdp : A.depth + 4 < recursionLimit) (hu : A.units + 40 < cLine) 
    (h : Back s Q (fun t => .str ⟨#[m]⟩ t)) :
    wpAny (model PP w) A (call (.ref 210) [.str ⟨W.toArray⟩ t]) Q E s := by
  obtain ⟨X, mean, mg, mb, T⟩ := G
  obtain ⟨x, hx⟩ : ∃ x : Str, x = ⟨W.toArray⟩ := ⟨_, rfl⟩
  have hl : x.length = 1 ∨ x.length = 2 := by
    subst hx
    rcases hW with ⟨h1, h2, rfl⟩ | ⟨rfl, rfl⟩ | ⟨rfl, rfl⟩ | ⟨h1, rfl⟩
    · exact .inl rfl
    all_goals exact .inr rfl
  rw [← hx]
  refine wpAny_call ?_
  (refine' enter (binds := [(Str.ofString "word", .str x t)]) X T ?k6 ?k7 ?k8 ?k9 ?kB ?_ ?c2 ?c3 ?c4 ?c5; (case k6 => k_is); (case k7 => k_is); (case k8 => (first | omega | (dsimp only [Ar]; omega) | (simp only [Around.in1_depth] at *; omega))); (case k9 => exact BindsTo.of_eq rfl); (case kB => exact locs rfl); (case c2 => exact rfl); (case c3 => exact rfl); (case c4 => exact rfl); (case c5 => decide); intro L h₁ hL F N)
  k_steps
  all_goals (try dsimp only)
  all_goals subst hx
  all_goals first
    | (rename Fr _ _ _ _ => F'; refine Back.fin h F' rfl rfl rfl ⟨_, congrArg (fun x => Value.str x _) ?_⟩; clear F' X T h)
    | (exfalso; (clear h); (try clear qk ek); (clear X T); (rename Fr _ _ _ _ => F'; clear F'))
  all_goals (rcases hW with ⟨h1, h2, rfl⟩ | ⟨rfl, rfl⟩ | ⟨rfl, rfl⟩ | ⟨h1, rfl⟩)
  all_goals (try simp only [item_head, charAt_snd, caretq, caret9, bang, caret, List.any_cons, List.any_nil, Bool.or_false, Bool.or_eq_true, Bool.or_eq_false_iff, beq_iff_eq, beq_eq_false_iff_ne, Str.mk.injEq, List.toArray_inj, Array.mk.injEq, List.cons.injEq] at *)
  all_goals first | rfl | (exfalso; simp [Str.length] at *; done) | (exfalso; simp [Str.length] at *; omega) | (simp [Str.length] at *; done) | (simp [Str.length] at *; omega)

theorem sign_baseE {W : List Nat} {m : Nat} {y : Str} {t : Tok} (hy : y = ⟨W.toArray⟩) (hW : BaseWord W m) (G : Gnd w s.heap) (hdp : A.depth + 4 < recursionLimit) (hu : A.units + 40 < cLine) 
    (h : Back s Q (fun t => .str ⟨#[m]⟩ t)) :
    wpAny (model PP w) A (call (.ref 210) [.str y t]) Q E s := by
  subst hy
  exact sign_base hW G hdp hu h
local macro_rules | `(tactic| walk_at "call ref") => `(tactic| ((with_reducible show wpAny _ _ (call (Value.ref 210) [Value.str _ _]) _ _ _); (refine sign_baseE (by assumption) (by assumption) (Gnd.keeps ⟨by assumption, _, _, _, by assumption⟩ (Fr.keep (by assumption))) ?k1 ?k2 (Back.of (by assumption) (by assumption) ?_)); (case k1 => (first | omega | (simp only [depth_deeper, units_deeper]; omega) | (simp only [depth_deeper, units_deeper]; dsimp only [Ar]; omega) | (dsimp only [Ar, Around.deeper] at *; omega))); (case k2 => (first | omega | (simp only [depth_deeper, units_deeper]; omega) | (simp only [depth_deeper, units_deeper]; dsimp only [Ar]; omega) | (dsimp only [Ar, Around.deeper] at *; omega))); intro t' h' tk' F' N'))
local macro_rules | `(tactic| walk_at "call ref") => `(tactic| ((with_reducible show wpAny _ _ (call (Value.ref 182) [Value.str _ _]) _ _ _); (refine alt_str (by assumption) (Gnd.keeps ⟨by assumption, _, _, _, by assumption⟩ (Fr.keep (by assumption))) ?k1 ?k2 (Back.of (by assumption) (by assumption) ?_)); (case k1 => (first | omega | (simp only [depth_deeper, units_deeper]; omega) | (simp only [depth_deeper, units_deeper]; dsimp only [Ar]; omega) | (dsimp only [Ar, Around.deeper] at *; omega))); (case k2 => (first | omega | (simp only [depth_deeper, units_deeper]; omega) | (simp only [depth_deeper, units_deeper]; dsimp only [Ar]; omega) | (dsimp only [Ar, Around.deeper] at *; omega))); intro t' h' tk' F' N'))

theorem slice_tail (a : Nat) (l : List Nat) : Txt.slice ⟨(a :: l).toArray⟩ (some 1) none = ⟨l.toArray⟩ := by
  rw [slice_from_eq (b := (l.length : Int) + 1) (by decide) (by simp [Str.length]; omega) (by simp [Str.length])]
  simp

theorem sign_bang {W : List Nat} {m : Nat} {t : Tok} (hW : BaseWord W m) (G : Gnd w s.heap) (hdp : A.depth + 6 < recursionLimit) (hu : A.units + 60 < cLine) 
    (h : Back s Q (fun t => .str ⟨#[m + 128]⟩ t)) :
    wpAny (model PP w) A (call (.ref 210) [.str ⟨(33 :: W).toArray⟩ t]) Q E s := by
  obtain ⟨X, mean, mg, mb, T⟩ := G
  obtain ⟨x, hx⟩ : ∃ x : Str, x = ⟨(33 :: W).toArray⟩ := ⟨_, rfl⟩
  have hWl : W.length = 1 ∨ W.length = 2 := by
    rcases hW with ⟨h1, h2, rfl⟩ | ⟨rfl, rfl⟩ | ⟨rfl, rfl⟩ | ⟨h1, rfl⟩
    · exact .inl rfl
    all_goals exact .inr rfl
  have hm : m < 128 := by
    rcases hW with ⟨h1, h2, rfl⟩ | ⟨rfl, rfl⟩ | ⟨rfl, rfl⟩ | ⟨h1, rfl⟩ <;> omega
  have hl : x.length = W.length + 1 := by
    subst hx; rfl
  have hs : Txt.slice x (some 1) none = ⟨W.toArray⟩ := by rw [hx]; exact slice_tail _ _
  have h0 : Txt.item x 0 = Str.ofString "!" := by rw [hx, item_head, bang]
  rw [← hx]
  refine wpAny_call ?_
  (refine' enter (binds := [(Str.ofString "word", .str x t)]) X T ?k6 ?k7 ?k8 ?k9 ?kB ?_ ?c2 ?c3 ?c4 ?c5; (case k6 => k_is); (case k7 => k_is); (case k8 => (first | omega | (dsimp only [Ar]; omega) | (simp only [Around.in1_depth] at *; omega))); (case k9 => exact BindsTo.of_eq rfl); (case kB => exact locs rfl); (case c2 => exact rfl); (case c3 => exact rfl); (case c4 => exact rfl); (case c5 => decide); intro L h₁ hL F N)
  k_steps
  all_goals (try dsimp only)
  all_goals first
    | (exfalso; (rename (Txt.item x 0 == Str.ofString "!") = false => hf); rw [h0] at hf; simp at hf; done)
    | (rename Fr _ _ _ _ => F'; exact Back.fin h F' rfl rfl rfl ⟨_, rfl⟩)
end
end Mine

namespace Mine
section
variable {w : World} {dp un : Nat} {fr : Option (List Env)} {gd : Option (List Code)} {s : Shared} {Q E : Value → Shared → Prop}
theorem kind_str {x n : Str} {t tn : Tok} (G : Gnd w s.heap) (hdp : dp + 2 < recursionLimit) (hu : un + 20 < cLine) 
    (h : Back s Q (fun t => .str (Str.ofString "") t)) :
    wpAny (model PP w) (Ar dp un fr gd) (call (.ref 126) [.str n tn, .str x t]) Q E s := by
  obtain ⟨X, mean, mg, mb, T⟩ := G
  refine wpAny_call ?_
  (refine' enter (binds := [(Str.ofString "name", .str n tn), (Str.ofString "x", .str x t)]) X T ?k6 ?k7 ?k8 ?k9 ?kB ?_ ?c2 ?c3 ?c4 ?c5; (case k6 => k_is); (case k7 => k_is); (case k8 => (first | omega | (dsimp only [Ar]; omega) | (simp only [Around.in1_depth] at *; omega))); (case k9 => exact BindsTo.of_eq rfl); (case kB => exact locs rfl); (case c2 => exact rfl); (case c3 => exact rfl); (case c4 => exact rfl); (case c5 => decide); intro L h₁ hL F N)
  k_steps
  all_goals (try dsimp only)
  all_goals (rename Fr _ _ _ _ => F'; exact Back.fin h F' rfl rfl rfl ⟨_, rfl⟩)
local macro_rules | `(tactic| walk_at "call ref") => `(tactic| ((with_reducible show wpAny _ _ (call (Value.ref 126) _) _ _ _); (refine kind_str (Gnd.keeps ⟨by assumption, _, _, _, by assumption⟩ (Fr.keep (by assumption))) ?k1 ?k2 (Back.of (by assumption) (by assumption) ?_)); (case k1 => (first | omega | (simp only [depth_deeper, units_deeper]; omega) | (simp only [depth_deeper, units_deeper]; dsimp only [Ar]; omega) | (dsimp only [Ar, Around.deeper] at *; omega))); (case k2 => (first | omega | (simp only [depth_deeper, units_deeper]; omega) | (simp only [depth_deeper, units_deeper]; dsimp only [Ar]; omega) | (dsimp only [Ar, Around.deeper] at *; omega))); intro t' h' tk' F' N'))
theorem fspath_str {x n : Str} {t tn : Tok} (G : Gnd w s.heap) (hdp : dp + 3 < recursionLimit) (hu : un + 30 < cLine) 
    (h : Back s Q (fun _ => .str x t)) :
    wpAny (model PP w) (Ar dp un fr gd) (call (.ref 133) [.str n tn, .str x t]) Q E s := by
  obtain ⟨X, mean, mg, mb, T⟩ := G
  refine wpAny_call ?_
  (refine' enter (binds := [(Str.ofString "name", .str n tn), (Str.ofString "x", .str x t)]) X T ?k6 ?k7 ?k8 ?k9 ?kB ?_ ?c2 ?c3 ?c4 ?c5; (case k6 => k_is); (case k7 => k_is); (case k8 => (first | omega | (dsimp only [Ar]; omega) | (simp only [Around.in1_depth] at *; omega))); (case k9 => exact BindsTo.of_eq rfl); (case kB => exact locs rfl); (case c2 => exact rfl); (case c3 => exact rfl); (case c4 => exact rfl); (case c5 => decide); intro L h₁ hL F N)
  k_steps
  all_goals (try dsimp only)
  all_goals (rename Fr _ _ _ _ => F'; exact Back.fin h F' rfl rfl rfl ⟨0, rfl⟩)
local macro_rules | `(tactic| walk_at "call ref") => `(tactic| ((with_reducible show wpAny _ _ (call (Value.ref 133) _) _ _ _); (refine fspath_str (Gnd.keeps ⟨by assumption, _, _, _, by assumption⟩ (Fr.keep (by assumption))) ?k1 ?k2 (Back.of (by assumption) (by assumption) ?_)); (case k1 => (first | omega | (simp only [depth_deeper, units_deeper]; omega) | (simp only [depth_deeper, units_deeper]; dsimp only [Ar]; omega) | (dsimp only [Ar, Around.deeper] at *; omega))); (case k2 => (first | omega | (simp only [depth_deeper, units_deeper]; omega) | (simp only [depth_deeper, units_deeper]; dsimp only [Ar]; omega) | (dsimp only [Ar, Around.deeper] at *; omega))); intro t' h' tk' F' N'))
/-- a call that hands back a new tuple of two -/
noncomputable def BackT (s : Shared) (Q : Value → Shared → Prop) (x y : Str) : Prop :=
  ∀ a t u h' tk', (∀ b o, s.heap.get? b = some o → h'.get? b = some o) → h'.get? a = some { cls := .type "tuple", data := .seq #[.str x t, .str y u] } → s.heap.get? a = none → Q (.ref a) { s with heap := h', toks := tk' }
theorem BackT.fin {x y : Str} {t u : Tok} {L : Addr} {m : Str → Option Value} {a : Addr} {s' : Shared} {news : List (Addr × Obj)} (h : BackT s Q x y) (F : Fr s.heap L s'.heap m) (N : News s.heap L s'.heap ((a, { cls := .type "tuple", data := .seq #[.str x t, .str y u] }) :: news)) (hg : s'.gens = s.gens) (hr : s'.drawn = s.drawn) (ho : s'.os = s.os) : Q (.ref a) s' := by
  obtain ⟨h', g, d, tk, o⟩ := s'
  obtain rfl : g = s.gens := hg
  obtain rfl : d = s.drawn := hr
  obtain rfl : o = s.os := ho
  exact h a t u h' tk F.keep (N _ (.head _)).1 (N _ (.head _)).2.2
theorem BackT.of {x y : Str} {h₀ : Heap} {L : Addr} {m : Str → Option Value} {news : List (Addr × Obj)} (F : Fr h₀ L s.heap m) (N : News h₀ L s.heap news)
    (k : ∀ a t u h' tk', Fr h₀ L h' m → News h₀ L h' ((a, { cls := .type "tuple", data := .seq #[.str x t, .str y u] }) :: news) → Q (.ref a) { s with heap := h', toks := tk' }) : BackT s Q x y := by
  intro a t u h' tk' st ha hn
  refine k a t u h' tk' (F.keeps st) fun p hp => ?_
  rcases List.mem_cons.mp hp with rfl | hp
  · refine ⟨ha, fun e => ?_, ?_⟩
    · obtain ⟨o, _, _, ho, _⟩ := F.ns
      rw [← e] at ho
      exact absurd (ho.symm.trans hn) (by simp)
    · cases e : h₀.get? a with
      | none => rfl
      | some o => exact absurd ((F.keep _ _ e).symm.trans hn) (by simp)
  · exact ⟨st _ _ (N p hp).1, (N p hp).2⟩
noncomputable def cutOf (x : Str) : Str := Txt.slice x none (some (Txt.rfind x (Str.ofString "/") + 1))
noncomputable def headOf (x : Str) : Str := if ((cutOf x).length : Int) ≠ 0 ∧ (cutOf x != Txt.mul (Str.ofString "/") (cutOf x).length) = true then Txt.rstripChars (cutOf x) (Str.ofString "/") else cutOf x
noncomputable def tailOf (x : Str) : Str := Txt.slice x (some (Txt.rfind x (Str.ofString "/") + 1)) none

theorem split_str {x : Str} {t : Tok} (hx : x.length ≤ 1000) (G : Gnd w s.heap) (hdp : dp + 4 < recursionLimit) (hu : un + 40 < cLine) 
    (h : BackT s Q (headOf x) (tailOf x)) :
    wpAny (model PP w) (Ar dp un fr gd) (call (.ref 140) [.str x t]) Q E s := by
  obtain ⟨X, mean, mg, mb, T⟩ := G
  refine wpAny_call ?_
  (refine' enter (binds := [(Str.ofString "p", .str x t)]) X T ?k6 ?k7 ?k8 ?k9 ?kB ?_ ?c2 ?c3 ?c4 ?c5; (case k6 => k_is); (case k7 => k_is); (case k8 => (first | omega | (dsimp only [Ar]; omega) | (simp only [Around.in1_depth] at *; omega))); (case k9 => exact BindsTo.of_eq rfl); (case kB => exact locs rfl); (case c2 => exact rfl); (case c3 => exact rfl); (case c4 => exact rfl); (case c5 => decide); intro L h₁ hL F N)
  k_steps
  all_goals (try dsimp only)
  all_goals (rename Fr _ _ _ _ => F'; rename News _ _ _ _ => N')
  · have e : headOf x = Txt.rstripChars (cutOf x) (Str.ofString "/") := if_pos ⟨by assumption, by assumption⟩
    rw [e] at h
    exact BackT.fin h F' N' rfl rfl rfl
  · have e : headOf x = cutOf x := if_neg fun ⟨_, z⟩ => absurd z (by rw [Bool.not_eq_true]; assumption)
    rw [e] at h
    exact BackT.fin h F' N' rfl rfl rfl
  · have e : headOf x = cutOf x := if_neg fun ⟨z, _⟩ => absurd (by assumption) z
    rw [e] at h
    exact BackT.fin h F' N' rfl rfl rfl
end
end Mine

namespace Mine

/-- everything above the base but the frame, as a ledger -/
noncomputable def allNews (base : Heap) (L : Addr) (h : Heap) : List (Addr × Obj) :=
  (List.range h.objs.size).filterMap fun b => if b = L then none else match base.get? b with
    | some _ => none
    | none => (h.get? b).map fun o => (b, o)
theorem allNews_news (base : Heap) (L : Addr) (h : Heap) : News base L h (allNews base L h) := by
  intro p hp
  obtain ⟨b, _, hb⟩ := List.mem_filterMap.mp hp
  by_cases e : b = L
  · rw [if_pos e] at hb; cases hb
  · rw [if_neg e] at hb
    cases hq : base.get? b with
    | some o => rw [hq] at hb; cases hb
    | none =>
      rw [hq] at hb
      obtain ⟨o, ho, rfl⟩ := Option.map_eq_some_iff.mp hb
      exact ⟨ho, e, hq⟩
theorem allNews_keeps {base h h' : Heap} {L : Addr} {m m' : Str → Option Value} (F : Fr base L h m) (F' : Fr base L h' m') (N : News base L h' (allNews base L h)) : ∀ b o, b ≠ L → h.get? b = some o → h'.get? b = some o := by
  intro b o hb e
  cases hq : base.get? b with
  | some o' =>
    have := (F.keep _ _ hq).symm.trans e
    cases this
    exact F'.keep _ _ hq
  | none =>
    refine (N (b, o) (List.mem_filterMap.mpr ⟨b, List.mem_range.mpr (Heap.lt_size e), ?_⟩)).1
    rw [if_neg hb, hq, e]; rfl

abbrev pmap (x : Str) (t : Tok) (m : Str → Option Value) : Str → Option Value := fun y => if y = Str.ofString "path" then some (.str x t) else m y
theorem Fr.pm {base h : Heap} {L : Addr} {m : Str → Option Value} {x : Str} {t : Tok} (F : Fr base L h m) (e : m (Str.ofString "path") = some (.str x t)) : Fr base L h (pmap x t m) := by
  have q : pmap x t m = m := by
    funext y
    by_cases h : y = Str.ofString "path"
    · subst h; simp [pmap, e]
    · simp [pmap, h]
  rw [q]; exact F
/-- what a step of the generator leaves as it stood -/
structure Since (L : Addr) (s₀ s : Shared) : Prop where
  heap : ∀ b o, b ≠ L → s₀.heap.get? b = some o → s.heap.get? b = some o
  gens : s.gens = s₀.gens
  drawn : s.drawn = s₀.drawn
  os : s.os = s₀.os
theorem Since.refl (L : Addr) (s : Shared) : Since L s s := ⟨fun _ _ _ e => e, rfl, rfl, rfl⟩
theorem Since.trans {L : Addr} {a b c : Shared} (x : Since L a b) (y : Since L b c) : Since L a c := ⟨fun p o h e => y.heap p o h (x.heap p o h e), y.gens.trans x.gens, y.drawn.trans x.drawn, y.os.trans x.os⟩

noncomputable def live (x : Str) : Prop := ((Txt.rstripChars x (Str.ofString "/")).length : Int) ≠ 0
inductive Outs : Str → List Str → Prop where
  | nil {x : Str} : ¬ live x → Outs x []
  | cons {x : Str} {ys : List Str} : live x → Outs (headOf x) ys → Outs x (x :: ys)

noncomputable def Gr (L : Addr) : GenEnd := fun n s₀ r s₁ => r = .ok (.ret .none) ∧ (n = 0 ∧ Since L s₀ s₁ ∧ ∃ o, s₁.heap.get? L = some o)
noncomputable def Gy (base : Heap) (L : Addr) (all : List Str) : Protocol := fun m s₀ v s kap =>
  (∃ y t, all[all.length - 1 - m]? = some y ∧ v = .str y t) ∧ Since L s₀ s ∧ (∃ o, s.heap.get? L = some o) ∧
    ∀ s'' : Shared, (∀ o, s.heap.get? L = some o → s''.heap.get? L = some o) → (∀ b o, base.get? b = some o → s''.heap.get? b = some o) → kap (.send .none) s''

/-- a piece of the generator's frame: walked at every state in which the frame says x -/
noncomputable def Piece (w : World) (base : Heap) (L : Addr) {α : Type} (tree : Sem α) (x : Str) (post : α → Str → Prop) : Prop :=
  ∀ (dp un : Nat) (fr : Option (List Env)) (gd : Option (List Code)) (s : Shared) (t : Tok) (m : Str → Option Value) (news : List (Addr × Obj)) (Q : α → Shared → Prop) (E : Value → Shared → Prop),
    dp + 8 < recursionLimit → un + 80 < cLine → Fr base L s.heap (pmap x t m) → News base L s.heap news →
    (∀ a x' t' m' s', post a x' → Fr base L s'.heap (pmap x' t' m') → News base L s'.heap news → s'.gens = s.gens → s'.drawn = s.drawn → s'.os = s.os → Q a s') →
    wpAny (model PP w) (Ar dp un fr gd) tree Q E s

section
variable {w : World} {base : Heap} {L : Addr}
theorem Piece.run {α : Type} {tree : Sem α} {x : Str} {post : α → Str → Prop} (p : Piece w base L tree x post) {A : Around} (hh : A.handled = none) (hdp : A.depth + 8 < recursionLimit) (hu : A.units + 80 < cLine) {s : Shared} {t : Tok} {m : Str → Option Value}
    {Q : α → Shared → Prop} {E : Value → Shared → Prop} (F : Fr base L s.heap (pmap x t m))
    (k : ∀ a x' t' m' s', post a x' → Fr base L s'.heap (pmap x' t' m') → Since L s s' → Q a s') : wpAny (model PP w) A tree Q E s := by
  obtain ⟨_, dp, fr, gd, un⟩ := A
  obtain rfl := hh
  exact p dp un fr gd s t m (allNews base L s.heap) Q E hdp hu F (allNews_news _ _ _) fun a x' t' m' s' hp F' N' e1 e2 e3 => k a x' t' m' _ hp F' ⟨allNews_keeps F F' N', e1, e2, e3⟩

theorem anc_loop {A : Around} {test e : Expr} {asg : Stmt} {ypos p3 : Pos} {env : Env} {k : Result → Sem Fin} {l : List Value} {c₁ : Code} {p₁ : Pos} {kp : List Value} {all : List Str}
    (hh : (A.over (.whileLoop test [.Expr (.Yield (some e) ypos) p3, asg] [] env) [.ret k none false l c₁ p₁ kp]).handled = none)
    (hdp : (A.over (.whileLoop test [.Expr (.Yield (some e) ypos) p3, asg] [] env) [.ret k none false l c₁ p₁ kp]).depth + 8 < recursionLimit)
    (hu : (A.over (.whileLoop test [.Expr (.Yield (some e) ypos) p3, asg] [] env) [.ret k none false l c₁ p₁ kp]).units + 80 < cLine)
    (hk : k (.ok .next) = .pure (.done (.ret .none))) (hco : env.scope.isCoroutine = false) (hi : interactive env = false)
    (htest : ∀ x : Str, x.length ≤ 1000 → Piece w base L (isTrue test env (eval test env)) x (fun b x' => x' = x ∧ (b = true ↔ live x)))
    (hname : ∀ x : Str, x.length ≤ 1000 → Piece w base L (eval e env) x (fun v x' => x' = x ∧ ∃ t, v = .str x t))
    (hasg : ∀ x : Str, x.length ≤ 1000 → Piece w base L (exec asg env) x (fun f x' => f = .next ∧ x' = headOf x))
    (hlen : ∀ x : Str, (headOf x).length ≤ x.length) {x : Str} {ys : List Str} (o : Outs x ys) :
    ∀ (pre : List Str) (s₀ s : Shared) (t : Tok) (m : Str → Option Value), all = pre ++ ys → x.length ≤ 1000 → Since L s₀ s → Fr base L s.heap (pmap x t m) →
      Seg (model PP w) A (Gr L) (Gy base L all) ys.length s₀ (.whileLoop test [.Expr (.Yield (some e) ypos) p3, asg] [] env)
        ((model PP w).den (.whileLoop test [.Expr (.Yield (some e) ypos) p3, asg] [] env)) [.ret k none false l c₁ p₁ kp] s := by
  induction o with
  | nil hl =>
    intro pre s₀ s t m hall hx sn F
    refine seg_whileLoop ((htest _ hx).run hh hdp hu F fun b x' t' m' s' hb F' sn' => ?_)
    rw [if_neg fun z => hl (hb.2.mp z)]
    refine seg_leaf (.ok .next) ?_
    rw [hk]
    exact seg_end (.ok (.ret .none)) ⟨rfl, rfl, sn.trans sn', (let ⟨o, _, _, ho, _⟩ := F'.ns; ⟨o, ho⟩)⟩
  | cons hl o ih =>
    rename_i x ys
    intro pre s₀ s t m hall hx sn F
    rw [List.length_cons]
    refine seg_whileLoop ((htest _ hx).run hh hdp hu F fun b x' t' m' s' hb F' sn' => ?_)
    rw [if_pos (hb.2.mpr hl)]
    obtain rfl := hb.1
    refine seg_execs_cons (seg_Expr_Yield rfl rfl rfl ((hname _ hx).run hh hdp hu F' fun v x'' t'' m'' s'' hv F'' sn'' => ?_) hco hi)
    obtain ⟨rfl, tv, rfl⟩ := hv
    intro kap hkap
    refine ⟨⟨_, tv, ?_, rfl⟩, (sn.trans sn').trans sn'', (let ⟨o, _, _, ho, _⟩ := F''.ns; ⟨o, ho⟩), fun s₃ hL hbase => hkap .none s₃ ?_⟩
    · rw [hall, List.length_append, List.length_cons, List.getElem?_append_right (by omega)]
      rw [show pre.length + (ys.length + 1) - 1 - ys.length - pre.length = 0 by omega]; rfl
    · have F₃ : Fr base L s₃.heap (pmap x'' t'' m'') := ⟨F''.ns.at' fun o e => hL o e, hbase, F''.above⟩
      refine seg_execs_cons (seg_wrap ((hasg _ hx).run hh hdp hu F₃ fun f x₄ t₄ m₄ s₄ hf F₄ sn₄ => ?_))
      obtain ⟨rfl, rfl⟩ := hf
      exact seg_again rfl (ih (pre ++ [x'']) s₃ s₄ t₄ m₄ (by rw [hall, List.append_assoc]; rfl) (Nat.le_trans (hlen _) hx) sn₄ F₄)

/-- a wide enough place for the generator to run in -/
abbrev G0 : Around := Ar 500 5000 none none
/-- a generator of _ancestry's: what it will hand out still is all.drop j -/
noncomputable def GenAt (w : World) (base : Heap) (a g L : Nat) (all : List Str) (j : Nat) (s : Shared) : Prop :=
  s.heap.IsGen a g ∧ (∀ b o, base.get? b = some o → s.heap.get? b = some o) ∧ (∃ o, s.heap.get? L = some o) ∧ ∃ gs, s.gens[g]? = some gs ∧
    ∀ s'' : Shared, (∀ o, s.heap.get? L = some o → s''.heap.get? L = some o) → (∀ b o, base.get? b = some o → s''.heap.get? b = some o) →
      gs.Goes (model PP w) G0 (Gr L) (Gy base L all) (all.length - j) (.send .none) s''

theorem anc_start {dp un : Nat} {fr : Option (List Env)} {gd : Option (List Code)} {test e : Expr} {asg₀ asg : Stmt} {ypos p3 p4 : Pos} {env : Env} {all : List Str}
    (hdp : dp + 12 < recursionLimit) (hu : un + 100 < cLine)
    (hco : env.scope.isCoroutine = false) (hi : interactive env = false)
    (hasg₀ : ∀ x : Str, x.length ≤ 1000 → Piece w base L (exec asg₀ env) x (fun f x' => f = .next ∧ x' = Txt.rstripChars x (Str.ofString "/")))
    (htest : ∀ x : Str, x.length ≤ 1000 → Piece w base L (isTrue test env (eval test env)) x (fun b x' => x' = x ∧ (b = true ↔ live x)))
    (hname : ∀ x : Str, x.length ≤ 1000 → Piece w base L (eval e env) x (fun v x' => x' = x ∧ ∃ t, v = .str x t))
    (hasg : ∀ x : Str, x.length ≤ 1000 → Piece w base L (exec asg env) x (fun f x' => f = .next ∧ x' = headOf x))
    (hlen : ∀ x : Str, (headOf x).length ≤ x.length) (hlen₀ : ∀ x : Str, (Txt.rstripChars x (Str.ofString "/")).length ≤ x.length)
    {x : Str} (o : Outs (Txt.rstripChars x (Str.ofString "/")) all) {s : Shared} {t : Tok} {m : Str → Option Value} (hx : x.length ≤ 1000) (F : Fr base L s.heap (pmap x t m)) :
      Seg (model PP w) (Ar dp un fr gd) (Gr L) (Gy base L all) all.length s (.func [asg₀, .While test [.Expr (.Yield (some e) ypos) p3, asg] [] p4] env)
        ((model PP w).den (.func [asg₀, .While test [.Expr (.Yield (some e) ypos) p3, asg] [] p4] env)) [] s := by
  refine seg_func (seg_execs_cons (seg_wrap ((hasg₀ _ hx).run (A := (Ar dp un fr gd).over _ []) rfl ?_ ?_ F fun f x' t' m' s' hf F' sn' => ?_)))
  · show dp + frameCount [] + Code.weight _ + 8 < recursionLimit
    have : frameCount [] = 0 := rfl
    have w1 : Code.weight (.func [asg₀, .While test [.Expr (.Yield (some e) ypos) p3, asg] [] p4] env) = 1 := rfl
    omega
  · show un + unitsOf [] + Code.cUnits _ + 80 < cLine
    have : unitsOf [] = 0 := rfl
    have w1 : Code.cUnits (.func [asg₀, .While test [.Expr (.Yield (some e) ypos) p3, asg] [] p4] env) = 3 := rfl
    omega
  · obtain ⟨rfl, rfl⟩ := hf
    refine seg_execs_cons (seg_While fun p => ?_)
    refine anc_loop ?_ ?_ ?_ rfl hco hi htest hname hasg hlen o [] s s' t' m' rfl (Nat.le_trans (hlen₀ _) hx) sn' F'
    · rfl
    · show dp + frameCount [(Code.func [asg₀, .While test [.Expr (.Yield (some e) ypos) p3, asg] [] p4] env, p)] + Code.weight _ + 8 < recursionLimit
      have w0 : frameCount [(Code.func [asg₀, .While test [.Expr (.Yield (some e) ypos) p3, asg] [] p4] env, p)] = 1 := rfl
      have w1 : Code.weight (.whileLoop test [.Expr (.Yield (some e) ypos) p3, asg] [] env) = 0 := rfl
      omega
    · show un + unitsOf [(Code.func [asg₀, .While test [.Expr (.Yield (some e) ypos) p3, asg] [] p4] env, p)] + Code.cUnits _ + 80 < cLine
      have w0 : unitsOf [(Code.func [asg₀, .While test [.Expr (.Yield (some e) ypos) p3, asg] [] p4] env, p)] = 3 := rfl
      have w1 : Code.cUnits (.whileLoop test [.Expr (.Yield (some e) ypos) p3, asg] [] env) = 0 := rfl
      omega

theorem enterGen {A : Around} {R : Result → Shared → Prop} {s : Shared} {name qual : Str} {params : Arguments} {body : List Stmt} {scope : Scope} {dV kV doc pm cdv ct oc : Value} {an od : Option Addr} {osl : Array (Option Value)} {f : Addr} {args : Args} {binds : List (Str × Value)}
    {K : Frag} {p : Program} {loose : List Str} {mean : ExcName → Option Value} {mg mb : Str → Option Value}
    (X : K.In s.heap) (T : Top p loose mean mg mb s.heap)
    (ho : K.lookup f = some ⟨oc, od, .func (fnOf name qual params body scope dV kV doc pm an cdv ct), osl⟩) (hcd : codeIn K cdv qual = true) (hroom : A.depth < recursionLimit)
    (hbind : BindsTo s (fnOf name qual params body scope dV kV doc pm an cdv ct) args binds) (hloc : ∀ y ∈ binds, scope.names.lookup y.1 = some .local)
    (h : ∀ L h₁ tk nm qn, L = s.heap.objs.size → Fr s.heap L h₁ (fun y => binds.reverse.lookup y) →
      R (.ok (.ret (.ref h₁.objs.size))) { s with gens := s.gens.push (.fresh (.func body (envOf qual scope L f cdv))), toks := tk, heap := h₁.push { cls := .type "generator", data := .fields #[.int s.gens.size 0, nm, qn] } })
    (hco : scope.isCoroutine = false := by rfl) (hgen : scope.isGenerator = true := by rfl) (hk : scope.kind = .function := by rfl)
    (hcell : ∀ x ∈ scope.names, x.2 ≠ .cell := by decide) : codeAny (model PP w) A (.call (.ref f) args) R s := by
  refine codeAny_call_generator (fd := fnOf name qual params body scope dV kV doc pm an cdv ct) (body := body) hroom (X _ _ ho) rfl hco hgen rfl (codeRec_of X hcd) (hbind _ _ _ _ ?_)
  refine wpAny_newFunctionEnv hcell hloc (fun h₁ hn hsb => ⟨T.nolimit.fresh _ hsb, ?_⟩) hk
  exact h _ h₁ _ _ _ rfl ⟨hn, fun b o e => hsb.extBut b o (Nat.ne_of_lt (Heap.lt_size e)) (Heap.get?_push_of_some _ e), Nat.le_refl _⟩

local macro_rules | `(tactic| walk_at "call ref") => `(tactic| ((with_reducible show wpAny _ _ (call (Value.ref 140) _) _ _ _); (refine split_str (by assumption) (Gnd.keeps ⟨by assumption, _, _, _, by assumption⟩ (Fr.keep (by assumption))) ?k1 ?k2 (BackT.of (by assumption) (by assumption) ?_)); (case k1 => (first | omega | (simp only [depth_deeper, units_deeper]; omega) | (simp only [depth_deeper, units_deeper]; dsimp only [Ar]; omega) | (dsimp only [Ar, Around.deeper] at *; omega))); (case k2 => (first | omega | (simp only [depth_deeper, units_deeper]; omega) | (simp only [depth_deeper, units_deeper]; dsimp only [Ar]; omega) | (dsimp only [Ar, Around.deeper] at *; omega))); intro a' t' u' h' tk' F' N'))

abbrev genObj (g : Nat) (nm qn : Value) : Obj := { cls := .type "generator", data := .fields #[.int g 0, nm, qn] }
theorem ancestry_call {dp un : Nat} {fr : Option (List Env)} {gd : Option (List Code)} {s : Shared} {Q E : Value → Shared → Prop} {x : Str} {t : Tok} {all : List Str}
    (hx : x.length ≤ 1000) (o : Outs (Txt.rstripChars x (Str.ofString "/")) all) (hlen : ∀ x : Str, (headOf x).length ≤ x.length) (hlen₀ : ∀ x : Str, (Txt.rstripChars x (Str.ofString "/")).length ≤ x.length)
    (G : Gnd w s.heap) (Gb : Gnd w base) (hbs : ∀ b o, base.get? b = some o → s.heap.get? b = some o) (hsz : base.objs.size ≤ s.heap.objs.size) (hdp : dp + 1 < recursionLimit) (hu : un + 20 < cLine)
    (h : ∀ L a h' tk gs nm qn, gs.bare = true → h'.get? a = some (genObj s.gens.size nm qn) → (∀ b o, s.heap.get? b = some o → h'.get? b = some o) → s.heap.get? L = none → s.heap.get? a = none → L < a → L = s.heap.objs.size →
      s.heap.objs.size ≤ a → GenAt w base a s.gens.size L all 0 { s with gens := s.gens.push gs, toks := tk, heap := h' } → Q (.ref a) { s with gens := s.gens.push gs, toks := tk, heap := h' }) :
    wpAny (model PP w) (Ar dp un fr gd) (call (.ref 147) [.str x t]) Q E s := by
  obtain ⟨X, mean, mg, mb, T⟩ := G
  refine wpAny_call ?_
  (refine' enterGen (binds := [(Str.ofString "path", .str x t)]) X T ?k6 ?k7 ?k8 ?k9 ?kB ?_ ?c2 ?c3 ?c4 ?c5; (case k6 => k_is); (case k7 => k_is); (case k8 => (dsimp only [Ar]; omega)); (case k9 => exact BindsTo.of_eq rfl); (case kB => exact locs rfl); (case c2 => exact rfl); (case c3 => exact rfl); (case c4 => exact rfl); (case c5 => decide); intro L h₁ tk nm qn hL F)
  have hn : ∀ b, s.heap.objs.size ≤ b → s.heap.get? b = none := fun b hb => by
    cases e : s.heap.get? b with
    | none => rfl
    | some o => exact absurd (Heap.lt_size e) (Nat.not_lt.mpr hb)
  have hLlt : L < h₁.objs.size := F.ns.lt
  have hLe : L = s.heap.objs.size := hL
  refine h L _ _ _ _ _ _ rfl (Heap.get?_push_size _ rfl) (fun b o e => Heap.get?_push_of_some _ (F.keep _ _ e)) (hn _ (Nat.le_of_eq hLe.symm)) (hn _ (Nat.le_of_lt (hLe ▸ hLlt))) hLlt hLe (Nat.le_of_lt (hLe ▸ hLlt)) ⟨⟨_, _, _, Heap.get?_push_size _ rfl, rfl, rfl, rfl⟩, fun b o e => Heap.get?_push_of_some _ (F.keep _ _ (hbs _ _ e)), (let ⟨o, _, _, ho, _⟩ := F.ns; ⟨o, Heap.get?_push_of_some _ ho⟩), _, Array.getElem?_push_size .., ?_⟩
  clear T X mean mg mb
  obtain ⟨X, mean, mg, mb, T⟩ := Gb
  intro s'' hkL hkb
  refine ⟨rfl, ?_⟩
  have Fs : Fr base L s''.heap (pmap x t _) := Fr.pm ⟨(F.ns.at' fun o e => hkL o (Heap.get?_push_of_some _ e)), hkb, Nat.le_trans hsz F.above⟩ rfl
  refine anc_start (by decide) (by decide) rfl rfl ?_ ?_ ?_ ?_ hlen hlen₀ o hx Fs
  · intro x hx dp un fr gd s₁ t m news Q E hdp hu F N k
    k_steps
    rename Fr _ _ _ _ => F'; rename News _ _ _ _ => N'
    exact k _ _ _ _ _ ⟨rfl, rfl⟩ (Fr.pm F' rfl) N' rfl rfl rfl
  · intro x hx dp un fr gd s₁ t m news Q E hdp hu F N k
    k_steps
    rename Fr _ _ _ _ => F'; rename News _ _ _ _ => N'
    exact k _ _ _ _ _ ⟨rfl, by simp [live]⟩ (Fr.pm F' rfl) N' rfl rfl rfl
  · intro x hx dp un fr gd s₁ t m news Q E hdp hu F N k
    k_steps
    rename Fr _ _ _ _ => F'; rename News _ _ _ _ => N'
    exact k _ _ _ _ _ ⟨rfl, _, rfl⟩ (Fr.pm F' rfl) N' rfl rfl rfl
  · intro x hx dp un fr gd s₁ t m news Q E hdp hu F N k
    k_steps
    rename Fr _ _ _ _ => F'; rename News _ _ _ _ => N'
    exact k _ _ _ _ _ ⟨rfl, rfl⟩ (Fr.pm F' rfl) (fun p hp => N' p (by simp [hp])) rfl rfl rfl
end
end Mine

namespace Mine
/-- one waking of the generator g, its frame at L -/
structure GStep (g L : Nat) (s s' : Shared) : Prop where
  heap : ∀ b o, b ≠ L → s.heap.get? b = some o → s'.heap.get? b = some o
  gens : GenOnlyQ g s.gens s'.gens
  drawn : s'.drawn = s.drawn
  os : s'.os = s.os

theorem wp_wide {M : Model} {A : Around} {α : Type} {t : Sem α} {Q : α → Shared → Prop} {E : Value → Shared → Prop} {s : Shared} (hh : A.handled = none) (hd : A.depth ≤ 500) (hu : A.units ≤ 5000) (h : wpAny M G0 t Q E s) : wpAny M A t Q E s :=
  fun Γ p hΓ => h Γ p ⟨hΓ.1.trans hh, Nat.le_trans hΓ.2.1 hd, fun _ e => (nomatch e), fun _ e => (nomatch e), Nat.le_trans hΓ.2.2.2.2 hu⟩
section
variable {w : World} {base : Heap} {L a g j : Nat} {all : List Str} {A : Around} {s : Shared}
theorem gen_wake {Q : Fin → Shared → Prop} {E : Value → Shared → Prop} (hh : A.handled = none) (hdp : A.depth ≤ 500) (hu : A.units ≤ 5000) (G : Gnd w base) (ga : GenAt w base a g L all j s) (haL : a ≠ L) (hL : base.get? L = none) (hj : j ≤ all.length)
    (hY : ∀ y t s', all[j]? = some y → GStep g L s s' → GenAt w base a g L all (j + 1) s' → Q (.done (.ret (.str y t))) s')
    (hE : j = all.length → ∀ e s₁ h', Heap.NewExc s₁.heap h' e "StopIteration" → GStep g L s s₁ → (∃ o, s₁.heap.get? L = some o) → E (.ref e) { s₁ with heap := h' }) :
    wpAny (model PP w) A (Builtin.Generator.genWake (.ref a) (.send .none)) Q E s := by
  refine wp_wide hh hdp hu ?_
  obtain ⟨hg, hb, hLo, gs, hgs, hgo⟩ := ga
  have G' := G.keeps hb
  obtain ⟨_, mean, mg, mb, T⟩ := G'
  have hgo' := hgo (s.setGen g .running) (fun _ e => e) hb
  unfold Builtin.Generator.genWake
  refine wpAny_bind (wpAny_holding (wpAny_genNumber hg (wpAny_bind (wpAny_genState hgs ?_))))
  cases gs with
  | running => exact hgo'.elim
  | finished => exact hgo'.elim
  | _ =>
    refine wpAny_bind (wpAny_roomToWake T.nolimit (by decide) ?_)
    show wpAny _ _ (.resume g (.send .none) [] _) _ _ s
    refine wpAny_resumeQ hgs hgo' (fun x s₁ hx => ?_) (fun v s₁ gs' hbare hv => ?_)
    · obtain ⟨rfl, hp, sn, hLe⟩ := hx
      have hp' : all.length - j = 0 := hp
      have hje : j = all.length := by omega
      have st : GStep g L s (s₁.setGen g .finished) := ⟨fun b o hb e => sn.heap b o hb e, by
        have e1 : (s₁.setGen g .finished).gens = ((s.setGen g .running).setGen g .finished).gens := by simp [Shared.setGen, sn.gens]
        rw [e1]
        exact GenOnlyQ.of ((GenOnly.setGen s g .running).trans (GenOnly.setGen _ g .finished)) (setGen_self (gs := .running) (setGen_self hgs)) rfl, sn.drawn, sn.os⟩
      show wpAny _ _ (newExc (.type "StopIteration") [] >>= _) _ _ _
      refine wpAny_bind ?_
      simp only [newExc, newTuple]
      refine wpAny_bind (wpAny_newObj_type ?_ (by size_fits))
      refine wpAny_bind (m := firstArgMember _ _) (wpAny_of_eq (a := Value.none) (by first | rfl | (simp only [firstArgMember]; rfl)) ?_)
      refine wpAny_newObj_type ?_ (by size_fits)
      simp only [raiseNew]
      refine wpAny_bind (wpAny_bind (wpAny_handled ?_))
      refine wpAny_throw ?_
      refine hE hje _ (s₁.setGen g .finished) _ ⟨fun b o e => Heap.get?_push_of_some _ (Heap.get?_push_of_some _ e), ?_, ⟨_, _, Heap.get?_push_size _ rfl, rfl, rfl⟩⟩ st hLe
      cases hq : (s₁.setGen g .finished).heap.get? (((s₁.setGen g .finished).heap.push { cls := .type "tuple", data := .seq ([] : List Value).toArray }).objs.size) with
      | none => rfl
      | some o =>
        have := Heap.lt_size hq
        rw [Heap.size_push] at this
        exact absurd this (Nat.not_lt.mpr (Nat.le_succ _))
    · obtain ⟨⟨y, t, hy, rfl⟩, sn, hLo', hkap⟩ := hv
      have hbL : ∀ b o, base.get? b = some o → s₁.heap.get? b = some o := fun b o e => sn.heap b o (fun h => by rw [h, hL] at e; cases e) (hb b o e)
      have hlt : j < all.length := by
        rcases Nat.lt_or_ge j all.length with h | h
        · exact h
        · have e0 : all.length - j = 0 := by omega
          rw [e0] at hkap
          exact (hkap s₁ (fun _ e => e) hbL).elim
      obtain ⟨n, hn⟩ : ∃ n, all.length - j = n + 1 := ⟨all.length - j - 1, by omega⟩
      have e1 : all.length - 1 - (all.length - j - 1) = j := by omega
      rw [e1] at hy
      refine wpAny_pure (hY y t _ hy ⟨fun b o hb e => sn.heap b o hb e, ?_, sn.drawn, sn.os⟩ ⟨?_, hbL, hLo', gs', ?_, ?_⟩)
      · have e1 : (s₁.setGen g gs').gens = ((s.setGen g .running).setGen g gs').gens := by simp [Shared.setGen, sn.gens]
        rw [e1]
        exact GenOnlyQ.of ((GenOnly.setGen s g .running).trans (GenOnly.setGen _ g gs')) (setGen_self (gs := .running) (setGen_self hgs)) hbare
      · obtain ⟨o, nm, qn, ho, r⟩ := hg
        exact ⟨o, nm, qn, sn.heap _ _ haL ho, r⟩
      · have e1 : (s₁.setGen g gs').gens = ((s.setGen g .running).setGen g gs').gens := by simp [Shared.setGen, sn.gens]
        rw [e1]
        exact setGen_self (gs := .running) (setGen_self hgs)
      · intro s'' hL' hb'
        have := hkap s'' hL' hb'
        rw [hn] at this
        rw [show all.length - (j + 1) = n by omega]
        exact this

theorem gen_special {Q : Option Value → Shared → Prop} {E : Value → Shared → Prop} (hh : A.handled = none) (hdp : A.depth ≤ 500) (hu : A.units + 1 ≤ 5000) (G : Gnd w base) (ga : GenAt w base a g L all j s) (haL : a ≠ L) (hL : base.get? L = none) (hj : j ≤ all.length)
    (hY : ∀ y t s', all[j]? = some y → GStep g L s s' → GenAt w base a g L all (j + 1) s' → Q (some (.str y t)) s')
    (hE : j = all.length → ∀ e s₁ h', Heap.NewExc s₁.heap h' e "StopIteration" → GStep g L s s₁ → (∃ o, s₁.heap.get? L = some o) → E (.ref e) { s₁ with heap := h' }) :
    wpAny (model PP w) A (callSpecial? (.ref a) (Str.ofString "__next__")) Q E s := by
  refine wpAny_callSpecial?_slot (name := Str.ofString "__next__") ga.1.typeIs slot_gen_next (wpAny_call_entry slot_gen_next ga.1.typeIs entry_gen_next ?_ (args_gen_next _))
  show wpAny _ A.in1 (Builtin.Generator.genWake (.ref a) (.send .none)) _ _ s
  exact gen_wake hh hdp hu G ga haL hL hj (fun y t s' h1 h2 h3 => ⟨_, rfl, hY y t s' h1 h2 h3⟩) hE

theorem gen_pyNext {Q : Option Value → Shared → Prop} {E : Value → Shared → Prop} (hh : A.handled = none) (hdp : A.depth ≤ 500) (hu : A.units + 1 ≤ 5000) (G : Gnd w base) (ga : GenAt w base a g L all j s) (haL : a ≠ L) (hL : base.get? L = none) (hj : j ≤ all.length)
    (hY : ∀ y t s', all[j]? = some y → GStep g L s s' → GenAt w base a g L all (j + 1) s' → Q (some (.str y t)) s')
    (hE : j = all.length → ∀ s', GStep g L s s' → Q none s') :
    wpAny (model PP w) A (pyNext (.ref a)) Q E s := by
  unfold pyNext
  refine wpAny_bind (wpAny_attempt (gen_special hh hdp hu G ga haL hL hj (fun y t s' h1 h2 h3 => ?_) (fun hj e s₁ h' hx st _ => ?_)))
  · exact wpAny_pure (hY y t s' h1 h2 h3)
  · obtain ⟨ob, tt, he, hc, _⟩ := hx.there
    refine wpAny_bind (wpAny_isInstance (T := "StopIteration") (b := true) ⟨_, he, hc⟩ isSubtype_stop ?_)
    exact wpAny_pure (hE hj _ ⟨fun b o hb e => hx.keeps _ _ (st.heap b o hb e), st.gens, st.drawn, st.os⟩)

/-- next(it) of a generator -/
theorem gen_next {Q : Value → Shared → Prop} {E : Value → Shared → Prop} (hh : A.handled = none) (hdp : A.depth ≤ 500) (hu : A.units + 2 ≤ 5000) (G : Gnd w base) (ga : GenAt w base a g L all j s) (haL : a ≠ L) (hL : base.get? L = none) (hj : j ≤ all.length)
    (hY : ∀ y t s', all[j]? = some y → GStep g L s s' → GenAt w base a g L all (j + 1) s' → Q (.str y t) s')
    (hE : j = all.length → ∀ e s₁ h', Heap.NewExc s₁.heap h' e "StopIteration" → GStep g L s s₁ → (∃ o, s₁.heap.get? L = some o) → E (.ref e) { s₁ with heap := h' }) :
    wpAny (model PP w) A (call (.builtin "next") [.ref a]) Q E s := by
  refine call_function_entry (by decide +kernel) (by decide +kernel) kdk_entry_next (kdk_args_next _) ?_
  unfold Builtin.«next»
  refine wpAny_bind (m := someArgs "next" 1 2 _) (wpAny_of_eq (a := [Value.ref a]) (by first | rfl | kernel_rfl!) ?_)
  dsimp only
  refine wpAny_bind (wpAny_specialOf (name := Str.ofString "__next__") ga.1.typeIs slot_gen_next.lookup ?_)
  refine wpAny_ite_split (fun hab => absurd hab (by decide)) (fun _ => ?_)
  refine wpAny_bind (gen_special hh hdp hu G ga haL hL hj (fun y t s' h1 h2 h3 => ?_) hE)
  exact wpAny_pure ⟨_, rfl, hY y t s' h1 h2 h3⟩

theorem GenAt.keeps {s' : Shared} (ga : GenAt w base a g L all j s) (hk : ∀ b o, s.heap.get? b = some o → s'.heap.get? b = some o) (hg : s'.gens = s.gens) : GenAt w base a g L all j s' := by
  obtain ⟨h1, h2, ⟨oL, hoL⟩, gs, h3, h4⟩ := ga
  exact ⟨h1.keeps hk, fun b o e => hk _ _ (h2 b o e), ⟨oL, hk _ _ hoL⟩, gs, by rw [hg]; exact h3, fun s'' hL hb => h4 s'' (fun o e => hL o (hk _ _ e)) hb⟩
/-- nothing of what the generator leans on is touched -/
theorem GenAt.frame {s' : Shared} {N : Nat} (ga : GenAt w base a g L all j s) (haN : a < N) (hLN : L < N) (hbN : base.objs.size ≤ N) (hk : ∀ b, b < N → ∀ o, s.heap.get? b = some o → s'.heap.get? b = some o) (hg : s'.gens = s.gens) : GenAt w base a g L all j s' := by
  obtain ⟨⟨o, nm, qn, ho, r⟩, h2, ⟨oL, hoL⟩, gs, h3, h4⟩ := ga
  exact ⟨⟨o, nm, qn, hk _ haN _ ho, r⟩, fun b o e => hk _ (Nat.lt_of_lt_of_le (Heap.lt_size e) hbN) _ (h2 b o e), ⟨oL, hk _ hLN _ hoL⟩, gs, by rw [hg]; exact h3, fun s'' hL hb => h4 s'' (fun o e => hL o (hk _ hLN _ e)) hb⟩

theorem gen_walks (hh : A.handled = none) (hdp : A.depth ≤ 500) (hu : A.units + 1 ≤ 5000) (G : Gnd w base) (haL : a ≠ L) (hL : base.get? L = none) {N : Nat} (haN : a < N) (hLN : L < N) (hbN : base.objs.size ≤ N) :
    WalksS PP w A a (List.range N) [L] (GenOnlyQ g) all.length (fun j v => ∃ y t, all[j]? = some y ∧ v = .str y t) (fun j s => j ≤ all.length ∧ GenAt w base a g L all j s) where
  sub := fun b hb => by
    rcases List.mem_cons.mp hb with rfl | hb
    · exact List.mem_range.mpr hLN
    · cases hb
  grefl := fun _ => .inl rfl
  gtrans := fun _ _ _ x y => x.trans y
  frame := fun i s h' tk st _ hk => ⟨st.1, st.2.frame haN hLN hbN (fun b hb o e => hk b (List.mem_range.mpr hb) o e) rfl⟩
  item := fun i s Q E hi st hQ => by
    refine wpAny_with_toks (Nat.le_refl s.toks) ?_
    refine gen_pyNext hh hdp hu G st.2 haL hL st.1 (fun y t s' h1 h2 h3 htk => ?_) (fun hj => absurd hj (Nat.ne_of_lt hi))
    exact hQ _ s' ⟨y, t, h1, rfl⟩ ⟨hi, h3⟩ ⟨fun b o hb e => h2.heap b o (fun h => hb (h ▸ List.mem_cons_self ..)) e, h2.gens, h2.drawn, h2.os, htk⟩
  done := fun s Q E st hQ => by
    refine wpAny_with_toks (Nat.le_refl s.toks) ?_
    refine gen_pyNext hh hdp hu G st.2 haL hL st.1 (fun y t s' h1 h2 h3 htk => ?_) (fun _ s' h2 htk => ?_)
    · rw [List.getElem?_eq_none (Nat.le_refl _)] at h1; cases h1
    · exact hQ s' ⟨fun b o hb e => h2.heap b o (fun h => hb (h ▸ List.mem_cons_self ..)) e, h2.gens, h2.drawn, h2.os, htk⟩
  self := fun i s Q E st hQ => wpAny_pyIter_gen st.2.1 hQ

/-- the generator's own part, without a heap -/
noncomputable def GenGo (w : World) (base : Heap) (L : Nat) (all : List Str) (j : Nat) (gs : GenState) (oL : Obj) : Prop :=
  ∀ s'' : Shared, s''.heap.get? L = some oL → (∀ b o, base.get? b = some o → s''.heap.get? b = some o) → gs.Goes (model PP w) G0 (Gr L) (Gy base L all) (all.length - j) (.send .none) s''
theorem GenAt.go (ga : GenAt w base a g L all j s) : ∃ gs oL, s.gens[g]? = some gs ∧ s.heap.get? L = some oL ∧ GenGo w base L all j gs oL := by
  obtain ⟨h1, h2, ⟨oL, hoL⟩, gs, h3, h4⟩ := ga
  exact ⟨gs, oL, h3, hoL, fun s'' hL hb => h4 s'' (fun o e => by rw [hoL] at e; cases e; exact hL) hb⟩
theorem GenGo.at {gs : GenState} {oL : Obj} (go : GenGo w base L all j gs oL) (hg : s.heap.IsGen a g) (hb : ∀ b o, base.get? b = some o → s.heap.get? b = some o) (hgs : s.gens[g]? = some gs) (hL : s.heap.get? L = some oL) : GenAt w base a g L all j s :=
  ⟨hg, hb, ⟨_, hL⟩, gs, hgs, fun s'' hk hb' => go s'' (hk _ hL) hb'⟩
end
end Mine

namespace Mine
theorem ancestry_new {w : World} {s : Shared} {Q E : Value → Shared → Prop} {A : Around} {L : Addr} {h₀ : Heap} {m : Str → Option Value} {news : List (Addr × Obj)} {x : Str} {t : Tok} {all : List Str} (hh : A.handled = none) (hdp : A.depth ≤ 500) (hu : A.units ≤ 5000)
    (hx : x.length ≤ 1000) (o : Outs (Txt.rstripChars x (Str.ofString "/")) all) (hlen : ∀ x : Str, (headOf x).length ≤ x.length) (hlen₀ : ∀ x : Str, (Txt.rstripChars x (Str.ofString "/")).length ≤ x.length)
    (F : Fr h₀ L s.heap m) (N : News h₀ L s.heap news) (G : Gnd w h₀) {gb : Heap} (Gb : Gnd w gb) (hgb : ∀ b o, gb.get? b = some o → h₀.get? b = some o) (hgz : gb.objs.size ≤ h₀.objs.size)
    (k : ∀ Lg a h' tk gs oL nm qn, Fr h₀ L h' m → News h₀ L h' ((a, genObj s.gens.size nm qn) :: (Lg, oL) :: news) → (∀ p ∈ news, p.1 < Lg) → Lg < a → h₀.objs.size ≤ Lg → gs.bare = true → GenGo w gb Lg all 0 gs oL → Q (.ref a) { s with gens := s.gens.push gs, toks := tk, heap := h' }) :
    wpAny (model PP w) A (call (.ref 147) [.str x t]) Q E s := by
  have G' := G.keeps F.keep
  refine wp_wide hh hdp hu (ancestry_call hx o hlen hlen₀ G' Gb (fun b o e => F.keep _ _ (hgb _ _ e)) (Nat.le_trans hgz (Nat.le_trans F.above (Nat.le_of_lt F.ns.lt))) (by decide) (by decide) fun Lg a h' tk gs nm qn hb hao hk hL ha hLa hLe hsa ga => ?_)
  obtain ⟨gs', oL, hgs, hoL, go⟩ := ga.go
  have : gs' = gs := by
    have e : (s.gens.push gs)[s.gens.size]? = some gs := Array.getElem?_push_size ..
    exact Option.some.inj (hgs.symm.trans e)
  subst this
  have free : ∀ b, s.heap.get? b = none → b ≠ L ∧ h₀.get? b = none := fun b hb => by
    refine ⟨fun e => ?_, ?_⟩
    · obtain ⟨o, _, _, ho, _⟩ := F.ns
      rw [← e] at ho
      exact absurd (ho.symm.trans hb) (by simp)
    · cases e : h₀.get? b with
      | none => rfl
      | some o => exact absurd ((F.keep _ _ e).symm.trans hb) (by simp)
  refine k Lg a h' tk gs' oL nm qn (F.keeps hk) (fun p hp => ?_) (fun p hp => hLe ▸ Heap.lt_size (N.get hp)) hLa (hLe ▸ Nat.le_trans F.above (Nat.le_of_lt F.ns.lt)) hb go
  rcases List.mem_cons.mp hp with rfl | hp
  · exact ⟨hao, free _ ha⟩
  · rcases List.mem_cons.mp hp with rfl | hp
    · exact ⟨hoL, free _ hL⟩
    · exact ⟨hk _ _ (N p hp).1, (N p hp).2⟩
theorem gen_iterN {w : World} {s : Shared} {Q E : Value → Shared → Prop} {A : Around} {L a g : Addr} {h₀ : Heap} {m : Str → Option Value} {news : List (Addr × Obj)} {nm qn : Value} (F : Fr h₀ L s.heap m) (N : News h₀ L s.heap news) (ha : (a, genObj g nm qn) ∈ news) (h : Q (.ref a) s) :
    wpAny (model PP w) A (call (.builtin "iter") [.ref a]) Q E s := by
  have hg : s.heap.IsGen a g := ⟨_, _, _, N.get ha, rfl, rfl, rfl⟩
  refine call_function_entry (by decide +kernel) (by decide +kernel) kdk_entry_iter (kdk_args_iter _) ?_
  unfold Builtin.«iter»
  refine wpAny_bind (m := someArgs "iter" 1 2 _) (wpAny_of_eq (a := [Value.ref a]) (by first | rfl | kernel_rfl!) ?_)
  show wpAny _ _ (pyIter (.ref a) >>= _) _ _ _
  exact wpAny_bind (wpAny_pyIter_gen hg (wpAny_pure ⟨_, rfl, h⟩))
local macro_rules | `(tactic| walk_at "call ref") => `(tactic| ((with_reducible show wpAny _ _ (call (Value.ref 147) _) _ _ _); (refine ancestry_new rfl ?k1 ?k2 (by assumption) (by assumption) (by assumption) (by assumption) (by assumption) (by assumption) ⟨by assumption, _, _, _, by assumption⟩ (by assumption) (by assumption) (by assumption) ?_); (case k1 => (first | omega | (simp only [depth_deeper, units_deeper]; omega) | (simp only [depth_deeper, units_deeper]; dsimp only [Ar]; omega) | (dsimp only [Ar, Around.deeper] at *; omega))); (case k2 => (first | omega | (simp only [depth_deeper, units_deeper]; omega) | (simp only [depth_deeper, units_deeper]; dsimp only [Ar]; omega) | (dsimp only [Ar, Around.deeper] at *; omega))); intro Lg a' h' tk' gs' oL' nm' qn' F' N' l1 l2 l3 hb' gn'; (try k_lt l1)))
local macro_rules | `(tactic| walk_at "call builtin:iter") => `(tactic| (k_here; (with_reducible show wpAny _ _ (call (Value.builtin "iter") [Value.ref _]) _ _ _); k_dflt (refine' gen_iterN ?F ?N ?h ?_; (case F => k_asm); (case N => k_asm); (case h => k_mem); k_whole)))
local macro_rules | `(tactic| k_room) => `(tactic| ((try simp only [depth_mark, depth_under_make, depth_under_kw, depth_in1, depth_deeper, depth_caller]); (try dsimp only [ktrTop]); omega))
local macro_rules | `(tactic| k_units) => `(tactic| ((try simp only [units_in1, units_deeper, Around.mark_units, units_caller]); (try dsimp only [ktrTop]); omega))
noncomputable def TupIt (o : Obj) (t : Addr) (i : Nat) : Prop := o.cls = .type "tuple_iterator" ∧ o.data = .fields #[.ref t, .int i 0]
section
variable {prog : Program} {w : World} {A : Around} {E : Value → Shared → Prop} {s : Shared} {h₀ : Heap} {L t I : Addr} {m : Str → Option Value} {news : List (Addr × Obj)} {g : Obj → List (Addr × Obj)} {items : List Value} {n i : Nat} {o : Obj}
theorem tup_iterN {Q : Value → Shared → Prop} (F : Fr h₀ L s.heap m) (N : News h₀ L s.heap news) (ht : (t, { cls := .type "tuple", data := .seq items.toArray n }) ∈ news)
    (h : ∀ I h' o, Fr h₀ L h' m → News h₀ L h' ((I, o) :: news) → (∀ p ∈ news, p.1 < I) → TupIt o t 0 → Q (.ref I) { s with heap := h' }) : wpAny (model prog w) A (pyIter (.ref t)) Q E s :=
  iter_tuple (N.isTup ht) (h _ _ _ (F.push _) (N.push F _) (fun _ hp => Heap.lt_size (N.get hp)) ⟨rfl, rfl⟩)
theorem tup_nextN {Q : Option Value → Shared → Prop} {x : Value} (F : Fr h₀ L s.heap m) (N : News h₀ L s.heap news) (U : UpdF I o news g) (hi : TupIt o t i) (ht : (t, { cls := .type "tuple", data := .seq items.toArray n }) ∈ news) (hx : items[i]? = some x)
    (h : ∀ h' o', Fr h₀ L h' m → News h₀ L h' (g o') → TupIt o' t (i + 1) → Q (some x) { s with heap := h' }) : wpAny (model prog w) A (pyNext (.ref I)) Q E s := by
  obtain ⟨pre, post, hl, hg, a, b⟩ := U.split
  have z := N (I, o) (by rw [hl]; exact List.mem_append_right _ (.head _))
  refine next_tuple_item (t := t) (i := i) ⟨_, z.1, hi.1, hi.2⟩ (N.isTup ht) (by simpa using hx) fun h' hit hs => ?_
  obtain ⟨o', ho', hc', hd'⟩ := hit
  exact h h' o' (F.change hs z.2.1 z.2.2) (hg o' ▸ (show News h₀ L s.heap (pre ++ (I, o) :: post) from hl ▸ N).setIn a b hs ho') ⟨hc', hd'⟩
inductive DropAt (I : Addr) : List (Addr × Obj) → List (Addr × Obj) → Prop where
  | here {o : Obj} {r : List (Addr × Obj)} : DropAt I ((I, o) :: r) r
  | there {p : Addr × Obj} {r r' : List (Addr × Obj)} : DropAt I r r' → DropAt I (p :: r) (p :: r')
theorem DropAt.mem {l l' : List (Addr × Obj)} (D : DropAt I l l') : ∃ o, (I, o) ∈ l := by
  induction D with
  | here => exact ⟨_, .head _⟩
  | there _ ih => exact ⟨_, .tail _ ih.choose_spec⟩
theorem DropAt.eq {l l' : List (Addr × Obj)} (D : DropAt I l l') : ∀ {pre post : List (Addr × Obj)}, l = pre ++ (I, o) :: post → (∀ p ∈ pre, p.1 ≠ I) → (∀ p ∈ post, p.1 ≠ I) → l' = pre ++ post := by
  induction D with
  | here =>
    intro pre post e a b
    cases pre with
    | nil => cases e; rfl
    | cons q pre =>
      cases e
      exact absurd rfl (a _ (.head _))
  | there D ih =>
    intro pre post e a b
    cases pre with
    | nil =>
      cases e
      obtain ⟨o', ho'⟩ := D.mem
      exact absurd rfl (b _ ho')
    | cons q pre =>
      cases e
      rw [ih rfl (fun p hp => a p (.tail _ hp)) b]; rfl
theorem tup_doneN {Q : Option Value → Shared → Prop} {news' : List (Addr × Obj)} (hh : A.handled = none) (F : Fr h₀ L s.heap m) (N : News h₀ L s.heap news) (U : UpdF I o news g) (D : DropAt I news news') (hi : TupIt o t i) (ht : (t, { cls := .type "tuple", data := .seq items.toArray n }) ∈ news) (hx : items[i]? = none)
    (h : ∀ h', Fr h₀ L h' m → News h₀ L h' news' → Q none { s with heap := h' }) : wpAny (model prog w) A (pyNext (.ref I)) Q E s := by
  obtain ⟨pre, post, hl, hg, a, b⟩ := U.split
  obtain rfl := D.eq hl a b
  have z := N (I, o) (by rw [hl]; exact List.mem_append_right _ (.head _))
  refine next_tuple_end hh ⟨_, z.1, hi.1, hi.2⟩ (N.isTup ht) (by simpa using hx) fun h' hs => h h' ⟨?_, ?_, F.above⟩ ?_
  · exact F.ns.at' fun o e => hs _ _ (Ne.symm z.2.1) e
  · exact fun b o e => hs _ _ (fun q => by rw [q, z.2.2] at e; cases e) (F.keep _ _ e)
  · intro p hp
    have hp' : p ∈ news := by
      rw [hl]
      rcases List.mem_append.mp hp with q | q
      · exact List.mem_append_left _ q
      · exact List.mem_append_right _ (.tail _ q)
    have hne : p.1 ≠ I := by
      rcases List.mem_append.mp hp with q | q
      · exact a _ q
      · exact b _ q
    exact ⟨hs _ _ hne (N p hp').1, (N p hp').2⟩
end
local macro_rules | `(tactic| walk_at "pyIter ref") => `(tactic| ((with_reducible show wpAny _ _ (pyIter (Value.ref _)) (OwitAt _ _ _ _ _ _ _ _) _ _); k_here; k_dflt (refine' tup_iterN ?F ?N ?h ?_; (case F => k_asm); (case N => k_asm); (case h => k_mem); k_whole; intro I' h' o' F' N' l1 hi'; (try k_lt l1))))
local macro_rules | `(tactic| walk_at "pyNext ref") => `(tactic| ((with_reducible show wpAny _ _ (pyNext (Value.ref _)) (OwitTurn _ _ _ _ _ _ _ _ _) _ _); k_here; k_dflt (refine' tup_nextN ?F ?N ?U ?i ?t ?x ?_; (case F => k_asm); (case N => k_asm); (case U => k_updF); (case i => k_asm); (case t => k_mem); (case x => rfl); intro h' o' F' N' hi'; (try dsimp only at N'))))
local macro_rules | `(tactic| walk_at "pyNext ref") => `(tactic| ((with_reducible show wpAny _ _ (pyNext (Value.ref _)) (OwitTurn _ _ _ _ _ _ _ _ _) _ _); k_here; k_dflt (refine' tup_doneN rfl ?F ?N ?U ?D ?i ?t ?x ?_; (case F => k_asm); (case N => k_asm); (case U => k_updF); (case D => repeat (first | exact DropAt.here | refine' DropAt.there ?_)); (case i => k_asm); (case t => k_mem); (case x => rfl); intro h' F' N'; (try dsimp only at N'))))
local macro_rules | `(tactic| walk_at "exec For Name Name cons nil") => `(tactic| (k_here; k_dflt (refine' owit_for ?_; k_whole)))

/-- entering a def of the text from a frame: the ground is the whole heap -/
theorem enterB {w : World} {A A₀ : Around} {s : Shared} {R : Result → Shared → Prop} {env : Env} {outer : List Env} {base h₀ : Heap} {L : Addr} {m : Str → Option Value} {name qual : Str} {params : Arguments} {body : List Stmt} {scope : Scope} {dV kV doc pm cdv ct oc : Value} {an od : Option Addr} {osl : Array (Option Value)} {f : Addr} {args : Args} {binds : List (Str × Value)}
    {K : Frag} {p : Program} {loose : List Str} {mean : ExcName → Option Value} {mg mb : Str → Option Value}
    (B : Below A₀ base outer h₀) (F : Fr h₀ L s.heap m) (X : K.In h₀) (T : Top p loose mean mg mb h₀) (hA : A.frames = some (env :: outer)) (hf : env.frame = some L) (hke : env.scope.kind = .function)
    (ho : K.lookup f = some ⟨oc, od, .func (fnOf name qual params body scope dV kV doc pm an cdv ct), osl⟩) (hcd : codeIn K cdv qual = true) (hroom : A.depth < recursionLimit)
    (hbind : BindsTo s (fnOf name qual params body scope dV kV doc pm an cdv ct) args binds) (hloc : ∀ y ∈ binds, scope.names.lookup y.1 = some .local)
    (h : ∀ L' h₁, Fr s.heap L' h₁ (fun y => binds.reverse.lookup y) → News s.heap L' h₁ [] → Below A base (env :: outer) s.heap → K.In s.heap → Top p loose mean mg mb s.heap →
      wpAny (model PP w) (A.deeper (envOf qual scope L' f cdv)) (execs body (envOf qual scope L' f cdv))
        (fun fl s' => R (.ok (.ret (match fl with | .ret v => v | _ => .none))) s')
        (fun e s' => wpAny (model PP w) (A.deeper (envOf qual scope L' f cdv)) (leaving (envOf qual scope L' f cdv) e) (fun _ s'' => R (.error e) s'') (fun e' s'' => R (.error e') s'') s')
        { s with heap := h₁, toks := s.toks + binds.length })
    (hco : scope.isCoroutine = false := by rfl) (hgen : scope.isGenerator = false := by rfl) (hk : scope.kind = .function := by rfl)
    (hcell : ∀ x ∈ scope.names, x.2 ≠ .cell := by decide) : codeAny (model PP w) A (.call (.ref f) args) R s := by
  obtain ⟨_, BG, _, _⟩ := groundX (R := R) B F (News.nil (h₀ := h₀) (L := L) (h := s.heap)) hA hf hke
  exact enter (X.keeps F.keep) (T.keeps F.keep) ho hcd hroom hbind hloc (fun L' h₁ _ F' N' => h L' h₁ F' N' BG (X.keeps F.keep) (T.keeps F.keep)) hco hgen hk hcell
section
variable {w : World} {s : Shared} {Q E : Value → Shared → Prop} {dp un : Nat} {gd : Option (List Code)} {cn : Str} {cs : Scope} {L a : Addr} {ccd : Value} {cl : List (Str × Addr)} {outer : List Env} {A₀ : Around} {base h₀ : Heap} {m : Str → Option Value} {news : List (Addr × Obj)} {mean : ExcName → Option Value} {mg mb : Str → Option Value}
abbrev islObj (d : Addr) (it : Value) (c n : Int) (t₁ t₂ t₃ t₄ : Tok) : Obj := { cls := .ref 68, dict := some d, slots := #[some (.int c t₁), some it, some (.int n t₂), some (.int 1 t₃), some (.int (-1) t₄)] }
theorem parents_call {x : Str} {t : Tok} {all : List Str}
    (hx : x.length ≤ 1000) (o : Outs (Txt.rstripChars x (Str.ofString "/")) all) (hlen : ∀ x : Str, (headOf x).length ≤ x.length) (hlen₀ : ∀ x : Str, (Txt.rstripChars x (Str.ofString "/")).length ≤ x.length)
    (B : Below A₀ base outer h₀) (F : Fr h₀ L s.heap m) (X : (hd.heap_39 w.params).In h₀) (N : News h₀ L s.heap news) (T : TP mean mg mb h₀) (hk : cs.kind = .function) (hdp : dp ≤ 400) (hu : un ≤ 3000) {gb : Heap} (Gb : Gnd w gb) (hgb : ∀ b o, gb.get? b = some o → s.heap.get? b = some o) (hgz : gb.objs.size ≤ s.heap.objs.size)
    (k : ∀ Lg a d x h' tk gs oL nm qn t₁ t₂ t₃ t₄, (∀ b o, s.heap.get? b = some o → h'.get? b = some o) → h'.get? x = some (islObj d (.ref a) 0 1 t₁ t₂ t₃ t₄) → h'.get? d = some (dictOf [] 0) → h'.get? a = some (genObj s.gens.size nm qn) → h'.get? Lg = some oL → s.heap.objs.size ≤ Lg → Lg < a → a < d → d < x →
      gs.bare = true → GenGo w gb Lg all 0 gs oL → Q (.ref x) { s with gens := s.gens.push gs, toks := tk, heap := h' }) :
    wpAny (model PP w) (ktrTop dp un gd cn cs L a ccd cl outer) (call (.ref 119) [.str x t]) Q E s := by
  refine wpAny_call ?_
  have hr : dp + 100 < recursionLimit := by show dp + 100 < 1000; omega
  have hc : un + 1000 < cLine := by show un + 1000 < 9900; omega
  (refine' enterB (binds := [(Str.ofString "path", .str x t)]) B F X T rfl rfl hk ?k6 ?k7 ?k8 ?k9 ?kB ?_ ?c2 ?c3 ?c4 ?c5; (case k6 => k_is); (case k7 => k_is); (case k8 => k_room); (case k9 => exact BindsTo.of_eq rfl); (case kB => exact locs rfl); (case c2 => exact rfl); (case c3 => exact rfl); (case c4 => exact rfl); (case c5 => decide); intro L' h₁ F' N' B' X' T')
  k_steps
  dsimp only at *
  rename GenGo _ _ _ _ _ _ _ => go; rename GenState.bare _ = true => hb
  rename News _ _ _ (_ :: _) => N'; rename Fr _ _ _ _ => F'
  have P1 := N'.get (.tail _ (.head _))
  have P2 := N'.get (.tail _ (.tail _ (.head _)))
  have P3 := N'.get (.tail _ (.tail _ (.tail _ (.head _))))
  have P4 := N'.get (.tail _ (.tail _ (.tail _ (.tail _ (.head _)))))
  refine k _ _ _ _ _ _ _ _ _ _ _ _ _ _ F'.keep P1 P2 P3 P4 ?_ ?_ ?_ ?_ hb go
  · assumption
  · assumption
  · (refine ltN ?_; omega)
  · assumption
end
end Mine

namespace Mine
/-- an exception in flight, its one entry tb told by the ledger -/
structure ExL (tb : Addr) (ob otb : Obj) (fl : Value) : Prop where
  cls : ob.cls = .type "StopIteration"
  data : ∃ vs, ob.data = .fields vs ∧ vs[1]? = some (.ref tb)
  entry : ∃ tvs, otb.data = .fields tvs ∧ tvs[3]? = some fl
section
variable {M : Model} {A : Around} {E : Value → Shared → Prop} {s : Shared} {h₀ : Heap} {L e tb : Addr} {m : Str → Option Value} {news : List (Addr × Obj)} {g : Obj → List (Addr × Obj)} {ob otb : Obj} {fl : Value} {env : Env}
theorem exl_field (N : News h₀ L s.heap news) (he : (e, ob) ∈ news) (X : ExL tb ob otb fl) {Q : Value → Shared → Prop} (h : Q (.ref tb) s) : wpAny M A (field (.ref e) 1) Q E s := by
  obtain ⟨vs, hd, h1⟩ := X.data
  exact wpAny_field (N _ he).1 hd h1 h
theorem exl_flight {Q : Unit → Shared → Prop} (fr : Option Addr) (F : Fr h₀ L s.heap m) (N : News h₀ L s.heap news) (U : UpdF tb otb news g) (he : (e, ob) ∈ news) (X : ExL tb ob otb fl)
    (k : ∀ h' otb', Fr h₀ L h' m → News h₀ L h' (g otb') → ExL tb ob otb' (fr.elim .none fun f => rawInt f) → Q () { s with heap := h' }) : wpAny M A (setFlight (.ref e) fr) Q E s := by
  obtain ⟨tvs, ht, h3⟩ := X.entry
  obtain ⟨pre, post, hl, hg, a, b⟩ := U.split
  have z := N (tb, otb) (by rw [hl]; exact List.mem_append_right _ (.head _))
  have hsz : 3 < tvs.size := (Array.getElem?_eq_some_iff.mp h3).1
  unfold setFlight
  refine wpAny_bind (exl_field N he X ?_)
  rw [if_pos (by rfl)]
  refine wpAny_setField z.1 ht hsz (k _ (Obj.mapFields (·.setIfInBounds 3 (fr.elim .none fun f => rawInt f)) otb) (F.change (Heap.SameBut.update ..) z.2.1 z.2.2) ?_ ⟨X.cls, X.data, _, Obj.data_mapFields ht _, by simp [hsz]⟩)
  rw [hg]
  exact (show News h₀ L s.heap (pre ++ (tb, otb) :: post) from hl ▸ N).setIn a b (Heap.SameBut.update ..) (Heap.get?_update_self _ z.1 (Obj.isFreed_of_fields (Obj.data_mapFields ht _)))
theorem exl_noted {Q : Unit → Shared → Prop} (hf : env.frame = some L) (N : News h₀ L s.heap news) (ht : (tb, otb) ∈ news) (he : (e, ob) ∈ news) (X : ExL tb ob otb (rawInt L)) (k : Q () s) : wpAny M A (noteFrame (.ref e) env) Q E s := by
  obtain ⟨tvs, htd, h3⟩ := X.entry
  unfold noteFrame
  rw [hf]
  dsimp only
  refine wpAny_bind (exl_field N he X ?_)
  rw [if_pos (by rfl)]
  refine wpAny_bind (wpAny_field (N _ ht).1 htd h3 ?_)
  rw [if_pos (by simp)]
  exact wpAny_pure k
theorem exl_notedBy {E' : Value → Shared → Prop} (hf : env.frame = some L) (N : News h₀ L s.heap news) (ht : (tb, otb) ∈ news) (he : (e, ob) ∈ news) (X : ExL tb ob otb (rawInt L)) (k : E' (.ref e) s) : notedBy M A env E' (.ref e) s := exl_noted hf N ht he X k
theorem exl_back {E' : Value → Shared → Prop} (hf : env.frame = some L) (F : Fr h₀ L s.heap m) (N : News h₀ L s.heap news) (U : UpdF tb otb news g) (he : (e, ob) ∈ news) (X : ExL tb ob otb fl)
    (k : ∀ h' otb', Fr h₀ L h' m → News h₀ L h' (g otb') → ExL tb ob otb' (rawInt L) → E' (.ref e) { s with heap := h' }) : cameBackBy M A env E' (.ref e) s := by
  unfold cameBackBy
  refine wpAny_bind (exl_field N he X ?_)
  rw [if_neg (show ¬ ((Value.ref tb == Value.none) = true) from Bool.false_ne_true), hf]
  exact exl_flight (some L) F N U he X k
theorem exl_raise {Q : Flow → Shared → Prop} {p : Pos} (hh : A.handled = some (.ref e)) (hf : env.frame = some L) (F : Fr h₀ L s.heap m) (N : News h₀ L s.heap news) (U : UpdF tb otb news g) (he : (e, ob) ∈ news) (X : ExL tb ob otb fl)
    (k : ∀ h' otb', Fr h₀ L h' m → News h₀ L h' (g otb') → ExL tb ob otb' (rawInt L) → E (.ref e) { s with heap := h' }) : wpAny M A (exec (.Raise none none p) env) Q E s := by
  rw [arm_exec_Raise]
  refine wpAny_bind (wpAny_standAt ?_)
  show wpAny M A (handled >>= _) Q E s
  refine wpAny_bind (wpAny_handled ?_)
  rw [hh]
  refine wpAny_bind (wpAny_rule ?_)
  refine wpAny_bind (exl_field N he X ?_)
  rw [if_neg (show ¬ ((Value.ref tb == Value.none) = true) from Bool.false_ne_true), hf]
  exact wpAny_bind (exl_flight (some L) F N U he X fun h' otb' F' N' X' => wpAny_throw (k h' otb' F' N' X'))
theorem exl_leaving {Q : Unit → Shared → Prop} (hf : env.frame = some L) (F : Fr h₀ L s.heap m) (N : News h₀ L s.heap news) (U : UpdF tb otb news g) (ht : (tb, otb) ∈ news) (he : (e, ob) ∈ news) (X : ExL tb ob otb (rawInt L))
    (k : ∀ h' otb', Fr h₀ L h' m → News h₀ L h' (g otb') → ExL tb ob otb' .none → Q () { s with heap := h' }) : wpAny M A (leaving env (.ref e)) Q E s := by
  unfold leaving
  exact wpAny_bind (exl_noted hf N ht he X (exl_flight none F N U he X k))
theorem exl_stop {Q : Option Value → Shared → Prop} {tb : Addr} (N : News h₀ L s.heap news) (he : (e, ob) ∈ news) (X : ExL tb ob otb fl) (k : Q none s) : OwitStop M A Q E (.ref e) s := by
  unfold OwitStop
  exact wpAny_isInstance (T := "StopIteration") (b := true) ⟨_, (N _ he).1, X.cls⟩ isSubtype_stop (by rw [if_pos rfl]; exact k)
end
section
variable {prog : Program} {w : World} {A : Around} {E : Value → Shared → Prop} {s' : Shared} {h hb : Heap} {env : Env} {L L' a e : Addr} {m : Str → Option Value} {name : Str} {scope : Scope} {cd : Value} {oF : Obj} {new : List (Addr × Obj)}
theorem exl_first {Q : Unit → Shared → Prop} (hfr : A.frames = some [env]) (Fs : TI.Frs [env] [(L, oF)]) (hx : Heap.NewExc h s'.heap e "StopIteration") (F : Fr hb L' h m) (N : News hb L' h (new ++ [(L, oF)])) (hne : ∀ p ∈ new, p.1 ≠ L)
    (k : ∀ h' tb ob otb sl, TI.Frs [env] [(L, { oF with slots := sl })] → Fr hb L' h' m → News hb L' h' ((e, ob) :: (tb, otb) :: (new ++ [(L, { oF with slots := sl })])) → ExL tb ob otb (rawInt L') →
      e ≠ tb → (∀ p ∈ new ++ [(L, { oF with slots := sl })], p.1 ≠ tb) → (∀ p ∈ new ++ [(L, { oF with slots := sl })], p.1 ≠ e) → Q () { s' with heap := h' }) (hk : scope.kind = .function := by rfl) :
    wpAny (model prog w) (A.deeper (envOf name scope L' a cd)) (noteFrame (.ref e) (envOf name scope L' a cd)) Q E s' := by
  refine TLg.noted_newA (new := new) hfr Fs hx F N (fun p hp hm => ?_) (fun h' frs' SU Fs' H => ?_) hk
  · rcases List.mem_cons.mp hm with q | hm
    · exact (N p (List.mem_append_left _ hp)).2.1 q
    · exact hne p hp (List.mem_singleton.mp hm)
  · obtain ⟨sl, rfl⟩ := TLg.one_up SU
    obtain ⟨⟨F', ⟨ob, vs, tb, otb, tvs, he, hcls, hd, h1, htb, htd, h3, htbL, htbe, htb0⟩, hf⟩, N', hap⟩ := H
    have ne : ∀ p ∈ new ++ [(L, { oF with slots := sl })], p.1 ≠ e := fun p hp q => by
      have hn := hx.new
      rcases List.mem_append.mp hp with r | r
      · have := (N p (List.mem_append_left _ r)).1
        rw [q, hn] at this; cases this
      · rcases List.mem_cons.mp r with rfl | r
        · have := (N (L, oF) (List.mem_append_right _ (.head _))).1
          dsimp only at q
          rw [q, hn] at this; cases this
        · exact nomatch r
    have hLe : e ≠ L' := fun q => by
      obtain ⟨o, _, _, ho, _⟩ := F.ns
      have hn := hx.new
      rw [q, ho] at hn; cases hn
    refine k h' tb ob otb sl Fs' F' (fun p hp => ?_) ⟨hcls, ⟨vs, hd, h1⟩, ⟨tvs, htd, h3⟩⟩ (Ne.symm htbe) (hap ob vs tb he hd h1) ne
    rcases List.mem_cons.mp hp with rfl | hp
    · exact ⟨he, hLe, hf⟩
    · rcases List.mem_cons.mp hp with rfl | hp
      · exact ⟨htb, htbL, htb0⟩
      · exact N' p hp
end
end Mine

namespace Mine
section
variable {w : World} {A : Around} {s : Shared} {R : Result → Shared → Prop} {env : Env} {h₀ : Heap} {L : Addr} {m : Str → Option Value} {news : List (Addr × Obj)}
/-- entering a def that raises: the caller's frame stands in the ledger -/
theorem enterT {name qual : Str} {params : Arguments} {body : List Stmt} {scope : Scope} {dV kV doc pm cdv ct oc : Value} {an od : Option Addr} {osl : Array (Option Value)} {f : Addr} {args : Args} {binds : List (Str × Value)}
    {K : Frag} {p : Program} {loose : List Str} {mean : ExcName → Option Value} {mg mb : Str → Option Value}
    (F : Fr h₀ L s.heap m) (X₀ : K.In h₀) (N : News h₀ L s.heap news) (T : Top p loose mean mg mb h₀) (hf : env.frame = some L) (hke : env.scope.kind = .function)
    (ho : K.lookup f = some ⟨oc, od, .func (fnOf name qual params body scope dV kV doc pm an cdv ct), osl⟩) (hcd : codeIn K cdv qual = true) (hroom : A.depth < recursionLimit)
    (hbind : BindsTo s (fnOf name qual params body scope dV kV doc pm an cdv ct) args binds) (hloc : ∀ y ∈ binds, scope.names.lookup y.1 = some .local)
    (h : ∀ oL L' h₁, s.heap.get? L = some oL → TI.Caller h₀ L m oL → TI.Frs [env] [(L, oL)] → (∀ p ∈ news, p.1 ≠ L) → L < L' → Fr h₀ L' h₁ (fun y => binds.reverse.lookup y) → News h₀ L' h₁ (news ++ [(L, oL)]) →
      wpAny (model PP w) (A.deeper (envOf qual scope L' f cdv)) (execs body (envOf qual scope L' f cdv))
        (fun fl s' => R (.ok (.ret (match fl with | .ret v => v | _ => .none))) s')
        (fun e s' => wpAny (model PP w) (A.deeper (envOf qual scope L' f cdv)) (leaving (envOf qual scope L' f cdv) e) (fun _ s'' => R (.error e) s'') (fun e' s'' => R (.error e') s'') s')
        { s with heap := h₁, toks := s.toks + binds.length })
    (hco : scope.isCoroutine = false := by rfl) (hgen : scope.isGenerator = false := by rfl) (hk : scope.kind = .function := by rfl)
    (hcell : ∀ x ∈ scope.names, x.2 ≠ .cell := by decide) : codeAny (model PP w) A (.call (.ref f) args) R s := by
  have X := X₀.keeps F.keep
  obtain ⟨oL, es, ep, hL, hLd, hLk, hLf⟩ := F.ns
  have hLt := Heap.lt_size hL
  have hkind : env.scope.kind ≠ .module := by rw [hke]; decide
  refine enter X (T.keeps F.keep) ho hcd hroom hbind hloc (fun L' h₁ hL' F' _ => ?_) hco hgen hk hcell
  have hLL : L < L' := hL' ▸ hLt
  refine h oL L' h₁ hL ⟨fun h' sl e => ⟨_, es, ep, e, hLd, hLk, hLf⟩, ⟨es, ep, hLd⟩, F.above⟩ ⟨hkind, hf, ⟨es, ep, hLd⟩, trivial⟩ (fun p hp => (N p hp).2.1) hLL
    ⟨F'.ns, fun b o e => F'.keep b o (F.keep b o e), Nat.le_trans F.above (Nat.le_of_lt hLL)⟩ (fun p hp => ?_)
  rcases List.mem_append.mp hp with hp | hp
  · obtain ⟨h1, h2, h3⟩ := N p hp
    exact ⟨F'.keep _ _ h1, Nat.ne_of_lt (hL' ▸ Heap.lt_size h1), h3⟩
  · rcases List.mem_cons.mp hp with rfl | hp
    · exact ⟨F'.keep _ _ hL, Nat.ne_of_lt hLL, Heap.get?_none_of_le F.above⟩
    · exact nomatch hp
end
section
variable {w : World} {A : Around} {s : Shared} {L a g Lg j : Nat} {g₀ gb : Heap} {m : Str → Option Value} {news : List (Addr × Obj)} {all : List Str} {gs : GenState} {oL : Obj} {nm qn : Value} {gf : Obj → List (Addr × Obj)}
theorem gen_nextN {Q : Value → Shared → Prop} {E : Value → Shared → Prop} (hh : A.handled = none) (hdp : A.depth ≤ 500) (hu : A.units + 2 ≤ 5000) (F : Fr g₀ L s.heap m) (N : News g₀ L s.heap news) (hgb : ∀ b o, gb.get? b = some o → g₀.get? b = some o) (Gb : Gnd w gb) (hLg : gb.get? Lg = none)
    (ha : (a, genObj g nm qn) ∈ news) (U : UpdF Lg oL news gf) (hgs : s.gens[g]? = some gs) (go : GenGo w gb Lg all j gs oL) (hj : j ≤ all.length) (haL : a ≠ Lg)
    (hY : ∀ y t h' tk gens' gs' oL', all[j]? = some y → j + 1 ≤ all.length → Fr g₀ L h' m → News g₀ L h' (gf oL') → gens'[g]? = some gs' → GenOnlyQ g s.gens gens' → GenGo w gb Lg all (j + 1) gs' oL' → Q (.str y t) { s with heap := h', gens := gens', toks := tk })
    (hE : j = all.length → ∀ e h₁ h' tk gens' oL', News g₀ L h₁ (gf oL') → Fr g₀ L h₁ m → Heap.NewExc h₁ h' e "StopIteration" → GenOnlyQ g s.gens gens' → E (.ref e) { s with heap := h', gens := gens', toks := tk }) :
    wpAny (model PP w) A (call (.builtin "next") [.ref a]) Q E s := by
  obtain ⟨pre, post, hl, hg, ha', hb'⟩ := U.split
  have z := N (Lg, oL) (by rw [hl]; exact List.mem_append_right _ (.head _))
  have ga : GenAt w gb a g Lg all j s := go.at ⟨_, _, _, N.get ha, rfl, rfl, rfl⟩ (fun b o e => F.keep _ _ (hgb _ _ e)) hgs z.1
  refine gen_next hh hdp hu Gb ga haL hLg hj (fun y t s' h1 h2 h3 => ?_) (fun hje e s₁ h' hx st hLe => ?_)
  · obtain ⟨gs', oL', e1, e2, e3⟩ := h3.go
    obtain ⟨h', gens', dr, tk, os⟩ := s'
    obtain rfl : dr = s.drawn := h2.drawn
    obtain rfl : os = s.os := h2.os
    have hlt : j + 1 ≤ all.length := by
      rcases Nat.lt_or_ge j all.length with q | q
      · exact q
      · rw [List.getElem?_eq_none q] at h1; cases h1
    refine hY y t h' tk gens' gs' oL' h1 hlt ⟨F.ns.at' fun o e => h2.heap _ _ (Ne.symm z.2.1) e, fun b o e => h2.heap _ _ (fun q => by rw [q, z.2.2] at e; cases e) (F.keep _ _ e), F.above⟩ ?_ e1 h2.gens e3
    rw [hg]
    intro p hp
    rcases List.mem_append.mp hp with q | q
    · have P := N p (by rw [hl]; exact List.mem_append_left _ q)
      exact ⟨h2.heap _ _ (ha' _ q) P.1, P.2⟩
    · rcases List.mem_cons.mp q with rfl | q
      · exact ⟨e2, z.2⟩
      · have P := N p (by rw [hl]; exact List.mem_append_right _ (.tail _ q))
        exact ⟨h2.heap _ _ (hb' _ q) P.1, P.2⟩
  · obtain ⟨h₁, gens', dr, tk, os⟩ := s₁
    obtain rfl : dr = s.drawn := st.drawn
    obtain rfl : os = s.os := st.os
    obtain ⟨oL', hoL'⟩ := hLe
    refine hE hje e h₁ h' tk gens' oL' (hg oL' ▸ fun p hp => ?_) ⟨F.ns.at' fun o e => st.heap _ _ (Ne.symm z.2.1) e, fun b o e => st.heap _ _ (fun q => by rw [q, z.2.2] at e; cases e) (F.keep _ _ e), F.above⟩ hx st.gens
    rcases List.mem_append.mp hp with q | q
    · have P := N p (by rw [hl]; exact List.mem_append_left _ q)
      exact ⟨st.heap _ _ (ha' _ q) P.1, P.2⟩
    · rcases List.mem_cons.mp q with rfl | q
      · exact ⟨hoL', z.2⟩
      · have P := N p (by rw [hl]; exact List.mem_append_right _ (.tail _ q))
        exact ⟨st.heap _ _ (hb' _ q) P.1, P.2⟩
end
local macro_rules | `(tactic| k_all) => `(tactic| with_reducible assumption)
local macro_rules | `(tactic| k_room) => `(tactic| ((try simp only [depth_mark, depth_under_make, depth_under_kw, depth_in1, depth_deeper, depth_caller]); (try dsimp only [ktrTop]); omega))
local macro_rules | `(tactic| k_units) => `(tactic| ((try simp only [units_in1, units_deeper, Around.mark_units, units_caller]); (try dsimp only [ktrTop]); omega))
local macro_rules | `(tactic| walk_at "call builtin:next") => `(tactic| (k_here; (with_reducible show wpAny _ _ (call (Value.builtin "next") [Value.ref _]) _ _ _); k_dflt (refine' gen_nextN rfl ?k1 ?k2 ?F ?N ?gb ?G ?L ?m ?U ?gs ?go ?j ?ne ?_ ?_; (case k1 => k_room); (case k2 => k_units); (case F => k_asm); (case N => k_asm); (case gb => assumption); (case G => assumption); (case L => assumption); (case m => k_mem); (case U => k_updF); (case gs => assumption); (case go => assumption); (case j => (try dsimp only); omega); (case ne => exact Nat.ne_of_gt (by assumption)))))
theorem ne4 {L x d a g : Addr} {rest : List (Addr × Obj)} {o1 o2 o3 o4 : Obj} (hx : x ≠ L) (hd : d ≠ L) (ha : a ≠ L) (hg : g ≠ L) (hr : ∀ p ∈ rest, p.1 ≠ L) : ∀ p ∈ (x, o1) :: (d, o2) :: (a, o3) :: (g, o4) :: rest, p.1 ≠ L := fun p hp => by
  rcases List.mem_cons.mp hp with rfl | hp
  · exact hx
  · rcases List.mem_cons.mp hp with rfl | hp
    · exact hd
    · rcases List.mem_cons.mp hp with rfl | hp
      · exact ha
      · rcases List.mem_cons.mp hp with rfl | hp
        · exact hg
        · exact hr p hp
theorem outT {h₀ h' : Heap} {L L' : Addr} {m m' : Str → Option Value} {oF oF' : Obj} {new : List (Addr × Obj)} (tiC : TI.Caller h₀ L m oF) (hs : ∃ sl, oF' = { oF with slots := sl }) (F' : Fr h₀ L' h' m') (N' : News h₀ L' h' (new ++ [(L, oF')])) (hne : ∀ p ∈ new, p.1 ≠ L) :
    Fr h₀ L h' m ∧ (∃ sl, h'.get? L = some { oF with slots := sl }) ∧ News h₀ L h' new := by
  obtain ⟨sl, rfl⟩ := hs
  have q := (N' (L, _) (List.mem_append_right _ (.head _))).1
  refine ⟨⟨tiC.ns _ sl q, F'.keep, tiC.above⟩, ⟨sl, q⟩, fun p hp => ?_⟩
  have z := N' p (List.mem_append_left _ hp)
  exact ⟨z.1, hne p hp, z.2.2⟩
section
variable {w : World} {s : Shared} {dp un : Nat} {gd : Option (List Code)} {cn : Str} {cs : Scope} {L la : Addr} {ccd : Value} {cl : List (Str × Addr)} {outer : List Env} {A₀ : Around} {base h₀ gb : Heap} {m : Str → Option Value} {rest : List (Addr × Obj)} {mean : ExcName → Option Value} {mg mb : Str → Option Value}
theorem isl_next_first {Q : Option Value → Shared → Prop} {E : Value → Shared → Prop} {x d a Lg g : Nat} {all : List Str} {gs : GenState} {oL : Obj} {nm qn : Value} {t₁ t₂ t₃ t₄ : Tok} {oF : Obj}
    (F : Fr h₀ L s.heap m) (X : (hd.heap_39 w.params).In h₀) (T : TP mean mg mb h₀) (hk : cs.kind = .function) (hdp : dp ≤ 400) (hu : un ≤ 3000) (hLo : s.heap.get? L = some oF)
    (N : News h₀ L s.heap ((x, islObj d (.ref a) 0 1 t₁ t₂ t₃ t₄) :: (d, dictOf [] 0) :: (a, genObj g nm qn) :: (Lg, oL) :: rest)) (hx : ∀ p ∈ rest, p.1 ≠ x) (hL : ∀ p ∈ rest, p.1 ≠ Lg) (h1 : Lg < a) (h2 : a < d) (h3 : d < x)
    (Gb : Gnd w gb) (hgb : ∀ b o, gb.get? b = some o → h₀.get? b = some o) (hLg : gb.get? Lg = none) (hgs : s.gens[g]? = some gs) (go : GenGo w gb Lg all 0 gs oL)
    (hY : ∀ y t h' tk gens' gs' oL' t₁' t₂', all[1]? = some y → 2 ≤ all.length → Fr h₀ L h' m → (∃ sl, h'.get? L = some { oF with slots := sl }) → News h₀ L h' ((x, islObj d (.ref a) 2 2 t₁' t₂' t₃ t₄) :: (d, dictOf [] 0) :: (a, genObj g nm qn) :: (Lg, oL') :: rest) → gens'[g]? = some gs' → GenOnlyQ g s.gens gens' → GenGo w gb Lg all 2 gs' oL' → Q (some (.str y t)) { s with heap := h', gens := gens', toks := tk })
    (hE : all.length ≤ 1 → ∀ h' tk gens' ox oL', Fr h₀ L h' m → (∃ sl, h'.get? L = some { oF with slots := sl }) → News h₀ L h' ((x, ox) :: (d, dictOf [] 0) :: (a, genObj g nm qn) :: (Lg, oL') :: rest) → GenOnlyQ g s.gens gens' → Q none { s with heap := h', gens := gens', toks := tk }) :
    wpAny (model PP w) (ktrTop dp un gd cn cs L la ccd cl []) (pyNext (.ref x)) Q E s := by
  have hr : dp + 100 < recursionLimit := by show dp + 100 < 1000; omega
  have hc : un + 1000 < cLine := by show un + 1000 < 9900; omega
  have hj0 : 0 ≤ all.length := Nat.zero_le _
  k_dflt (refine' owit_next ?F ?X ?I ?hs ?hf ?_; (case F => k_asm); (case X => k_asm); (case I => k_inst); (case hs => k_is); (case hf => k_is))
  refine wpAny_call ?_
  (refine' enterT (binds := [(Str.ofString "self", .ref x)]) (env := envX cn cs L la ccd cl) F X N T rfl hk ?k6 ?k7 ?k8 ?k9 ?kB ?_ ?c2 ?c3 ?c4 ?c5; (case k6 => k_is); (case k7 => k_is); (case k8 => k_room); (case k9 => exact BindsTo.of_eq rfl); (case kB => exact locs rfl); (case c2 => exact rfl); (case c3 => exact rfl); (case c4 => exact rfl); (case c5 => decide); intro oF' L' h₁ hLo' tiC tiF neL hLL F' N'; obtain rfl : oF = oF' := Option.some.inj (hLo.symm.trans hLo'))
  have neX : x ≠ L := neL _ (.head _)
  have neD : d ≠ L := neL _ (.tail _ (.head _))
  have neA : a ≠ L := neL _ (.tail _ (.tail _ (.head _)))
  have neR : ∀ p ∈ rest, p.1 ≠ L := fun p hp => neL _ (.tail _ (.tail _ (.tail _ (.tail _ hp))))
  have neG : Lg ≠ L := neL _ (.tail _ (.tail _ (.tail _ (.head _))))
  have hx' : ∀ p ∈ rest ++ [(L, oF)], p.1 ≠ x := fun p hp => by
    rcases List.mem_append.mp hp with q | q
    · exact hx p q
    · rcases List.mem_cons.mp q with rfl | q
      · exact Ne.symm neX
      · exact nomatch q
  have hL' : ∀ p ∈ rest ++ [(L, oF)], p.1 ≠ Lg := fun p hp => by
    rcases List.mem_append.mp hp with q | q
    · exact hL p q
    · rcases List.mem_cons.mp q with rfl | q
      · exact Ne.symm neG
      · exact nomatch q
  have N1 : News h₀ L' h₁ ((x, islObj d (.ref a) 0 1 t₁ t₂ t₃ t₄) :: (d, dictOf [] 0) :: (a, genObj g nm qn) :: (Lg, oL) :: (rest ++ [(L, oF)])) := N'
  clear N' F N
  dsimp only
  k_steps
  · rename_i y₀ z₀ h₂ k₂ gens₁ gs₁ oL₁ e₀ l₀ p₀ q₀ r₀ h₃ k₃ k₄ y t h₄ k₅ gens₂ gs₂ oL₂ e₁ l₁ p₁ q₁ r₁ h₅ k₆ h₆ h₇ F₇ N₇
    obtain ⟨Fo, Lo, No⟩ := outT (new := (x, _) :: (d, _) :: (a, _) :: (Lg, _) :: rest) tiC ⟨oF.slots, rfl⟩ F₇ N₇ (ne4 neX neD neA neG neR)
    exact hY y t _ _ gens₂ gs₂ oL₂ _ _ e₁ l₁ Fo Lo No p₁ (GenOnlyQ.trans q₀ q₁) r₁
  · rename_i je e h₁' h' tk' gens' oL' Na Fa xa ga
    refine exl_first (new := (x, _) :: (d, _) :: (a, _) :: (Lg, _) :: rest) rfl tiF xa Fa Na (ne4 neX neD neA neG neR) (fun h2 tb ob otb sl Fs2 F2 N2 X2 ne ntb nee => ?_)
    have N3 : News h₀ L' h2 ((e, ob) :: (tb, otb) :: (x, _) :: (d, _) :: (a, _) :: (Lg, oL') :: (rest ++ [(L, { oF with slots := sl })])) := N2
    clear N2
    refine exl_flight none F2 N3 (.tail ne (.head ntb)) (.head _) X2 (fun h3 otb' F3 N4 X3 => ?_)
    have N5 : News h₀ L' h3 ((e, ob) :: (tb, otb') :: (x, _) :: (d, _) :: (a, _) :: (Lg, oL') :: (rest ++ [(L, { oF with slots := sl })])) := N4
    refine wpAny_handleBy_builtin (X := "StopIteration") (T := "BaseException") (b := true) (by rw [isSubtype_type]; kernel_rfl) (by rw [isSubtype_type]; kernel_rfl) (by rw [isSubtype_type]; kernel_rfl) ?_
    have hex : e ≠ x := Ne.symm (nee (x, _) (.head _))
    have htx : tb ≠ x := Ne.symm (ntb (x, _) (.head _))
    have hx2 : ∀ p ∈ rest ++ [(L, { oF with slots := sl })], p.1 ≠ x := fun p hp => by
      rcases List.mem_append.mp hp with q | q
      · exact hx p q
      · rcases List.mem_cons.mp q with rfl | q
        · exact Ne.symm neX
        · exact nomatch q
    k_steps
    all_goals (try exact ⟨ob, (N5 (e, ob) (.head _)).1, X3.cls⟩)
    rename Fr h₀ L' h3 _ => kF
    refine exl_flight none kF N5 (.tail ne (.head ntb)) (.head _) X3 (fun h4 otb2 F4 N6 X4 => ?_)
    have N7 : News h₀ L' h4 ((e, ob) :: (tb, otb2) :: (x, _) :: (d, _) :: (a, _) :: (Lg, oL') :: (rest ++ [(L, { oF with slots := sl })])) := N6
    clear N3 N4 N5 N6
    k_steps
    rename Fr h₀ L' _ _ => kF2
    rename News h₀ L' _ _ => kN
    have nt5 : ∀ {o1 o2 o3 o4 : Obj}, ∀ p ∈ (x, o1) :: (d, o2) :: (a, o3) :: (Lg, o4) :: (rest ++ [(L, { oF with slots := sl })]), p.1 ≠ tb := fun {o1 o2 o3 o4} =>
      ne4 (ntb (x, _) (.head _)) (ntb (d, _) (.tail _ (.head _))) (ntb (a, _) (.tail _ (.tail _ (.head _)))) (ntb (Lg, _) (.tail _ (.tail _ (.tail _ (.head _))))) (fun p hp => ntb p (.tail _ (.tail _ (.tail _ (.tail _ hp)))))
    refine exl_raise rfl rfl kF2 kN (.tail ne (.head nt5)) (.head _) X4 (fun h5 otb3 F5 N8 X5 => ?_)
    refine exl_notedBy rfl N8 (.tail _ (.head _)) (.head _) X5 ?_
    refine exl_back rfl F5 N8 (.tail ne (.head nt5)) (.head _) X5 (fun h6 otb4 F6 N9 X6 => ?_)
    refine exl_leaving rfl F6 N9 (.tail ne (.head nt5)) (.tail _ (.head _)) (.head _) X6 (fun h7 otb5 F7 N10 X7 => ?_)
    refine exl_stop N10 (.head _) X7 ?_
    obtain ⟨Fo, Lo, No⟩ := outT (new := (x, _) :: (d, _) :: (a, _) :: (Lg, _) :: rest) tiC ⟨sl, rfl⟩ F7 (fun p hp => N10 p (.tail _ (.tail _ hp))) (ne4 neX neD neA neG neR)
    exact hE (by omega) _ _ _ _ _ Fo Lo No (by first | exact ga | exact GenOnlyQ.trans (by assumption) ga)
  · rename_i je e h₁' h' tk' gens' oL' Na Fa xa ga
    refine exl_first (new := (x, _) :: (d, _) :: (a, _) :: (Lg, _) :: rest) rfl tiF xa Fa Na (ne4 neX neD neA neG neR) (fun h2 tb ob otb sl Fs2 F2 N2 X2 ne ntb nee => ?_)
    have N3 : News h₀ L' h2 ((e, ob) :: (tb, otb) :: (x, _) :: (d, _) :: (a, _) :: (Lg, oL') :: (rest ++ [(L, { oF with slots := sl })])) := N2
    clear N2
    refine exl_flight none F2 N3 (.tail ne (.head ntb)) (.head _) X2 (fun h3 otb' F3 N4 X3 => ?_)
    have N5 : News h₀ L' h3 ((e, ob) :: (tb, otb') :: (x, _) :: (d, _) :: (a, _) :: (Lg, oL') :: (rest ++ [(L, { oF with slots := sl })])) := N4
    refine wpAny_handleBy_builtin (X := "StopIteration") (T := "BaseException") (b := true) (by rw [isSubtype_type]; kernel_rfl) (by rw [isSubtype_type]; kernel_rfl) (by rw [isSubtype_type]; kernel_rfl) ?_
    have hex : e ≠ x := Ne.symm (nee (x, _) (.head _))
    have htx : tb ≠ x := Ne.symm (ntb (x, _) (.head _))
    have hx2 : ∀ p ∈ rest ++ [(L, { oF with slots := sl })], p.1 ≠ x := fun p hp => by
      rcases List.mem_append.mp hp with q | q
      · exact hx p q
      · rcases List.mem_cons.mp q with rfl | q
        · exact Ne.symm neX
        · exact nomatch q
    k_steps
    all_goals (try exact ⟨ob, (N5 (e, ob) (.head _)).1, X3.cls⟩)
    rename Fr h₀ L' h3 _ => kF
    refine exl_flight none kF N5 (.tail ne (.head ntb)) (.head _) X3 (fun h4 otb2 F4 N6 X4 => ?_)
    have N7 : News h₀ L' h4 ((e, ob) :: (tb, otb2) :: (x, _) :: (d, _) :: (a, _) :: (Lg, oL') :: (rest ++ [(L, { oF with slots := sl })])) := N6
    clear N3 N4 N5 N6
    k_steps
    rename Fr h₀ L' _ _ => kF2
    rename News h₀ L' _ _ => kN
    have nt5 : ∀ {o1 o2 o3 o4 : Obj}, ∀ p ∈ (x, o1) :: (d, o2) :: (a, o3) :: (Lg, o4) :: (rest ++ [(L, { oF with slots := sl })]), p.1 ≠ tb := fun {o1 o2 o3 o4} =>
      ne4 (ntb (x, _) (.head _)) (ntb (d, _) (.tail _ (.head _))) (ntb (a, _) (.tail _ (.tail _ (.head _)))) (ntb (Lg, _) (.tail _ (.tail _ (.tail _ (.head _))))) (fun p hp => ntb p (.tail _ (.tail _ (.tail _ (.tail _ hp)))))
    refine exl_raise rfl rfl kF2 kN (.tail ne (.head nt5)) (.head _) X4 (fun h5 otb3 F5 N8 X5 => ?_)
    refine exl_notedBy rfl N8 (.tail _ (.head _)) (.head _) X5 ?_
    refine exl_back rfl F5 N8 (.tail ne (.head nt5)) (.head _) X5 (fun h6 otb4 F6 N9 X6 => ?_)
    refine exl_leaving rfl F6 N9 (.tail ne (.head nt5)) (.tail _ (.head _)) (.head _) X6 (fun h7 otb5 F7 N10 X7 => ?_)
    refine exl_stop N10 (.head _) X7 ?_
    obtain ⟨Fo, Lo, No⟩ := outT (new := (x, _) :: (d, _) :: (a, _) :: (Lg, _) :: rest) tiC ⟨sl, rfl⟩ F7 (fun p hp => N10 p (.tail _ (.tail _ hp))) (ne4 neX neD neA neG neR)
    exact hE (by omega) _ _ _ _ _ Fo Lo No (by first | exact ga | exact GenOnlyQ.trans (by assumption) ga)
end
end Mine

namespace Mine
local macro_rules | `(tactic| k_all) => `(tactic| with_reducible assumption)
local macro_rules | `(tactic| k_room) => `(tactic| ((try simp only [depth_mark, depth_under_make, depth_under_kw, depth_in1, depth_deeper, depth_caller]); (try dsimp only [ktrTop]); omega))
local macro_rules | `(tactic| k_units) => `(tactic| ((try simp only [units_in1, units_deeper, Around.mark_units, units_caller]); (try dsimp only [ktrTop]); omega))
local macro_rules | `(tactic| walk_at "call builtin:next") => `(tactic| (k_here; (with_reducible show wpAny _ _ (call (Value.builtin "next") [Value.ref _]) _ _ _); k_dflt (refine' gen_nextN rfl ?k1 ?k2 ?F ?N ?gb ?G ?L ?m ?U ?gs ?go ?j ?ne ?_ ?_; (case k1 => k_room); (case k2 => k_units); (case F => k_asm); (case N => k_asm); (case gb => assumption); (case G => assumption); (case L => assumption); (case m => k_mem); (case U => k_updF); (case gs => assumption); (case go => assumption); (case j => (try dsimp only); omega); (case ne => exact Nat.ne_of_gt (by assumption)))))
section
variable {w : World} {s : Shared} {dp un : Nat} {gd : Option (List Code)} {cn : Str} {cs : Scope} {L la : Addr} {ccd : Value} {cl : List (Str × Addr)} {outer : List Env} {A₀ : Around} {base h₀ gb : Heap} {m : Str → Option Value} {rest : List (Addr × Obj)} {mean : ExcName → Option Value} {mg mb : Str → Option Value}
theorem isl_next_more {Q : Option Value → Shared → Prop} {E : Value → Shared → Prop} {x d a Lg g j : Nat} {c : Int} {all : List Str} {gs : GenState} {oL : Obj} {nm qn : Value} {t₁ t₂ t₃ t₄ : Tok} {oF : Obj}
    (F : Fr h₀ L s.heap m) (X : (hd.heap_39 w.params).In h₀) (T : TP mean mg mb h₀) (hk : cs.kind = .function) (hj : j ≤ all.length) (hdp : dp ≤ 400) (hu : un ≤ 3000) (hLo : s.heap.get? L = some oF)
    (N : News h₀ L s.heap ((x, islObj d (.ref a) c c t₁ t₂ t₃ t₄) :: (d, dictOf [] 0) :: (a, genObj g nm qn) :: (Lg, oL) :: rest)) (hx : ∀ p ∈ rest, p.1 ≠ x) (hL : ∀ p ∈ rest, p.1 ≠ Lg) (h1 : Lg < a) (h2 : a < d) (h3 : d < x)
    (Gb : Gnd w gb) (hgb : ∀ b o, gb.get? b = some o → h₀.get? b = some o) (hLg : gb.get? Lg = none) (hgs : s.gens[g]? = some gs) (go : GenGo w gb Lg all j gs oL)
    (hY : ∀ y t h' tk gens' gs' oL' t₁' t₂', all[j]? = some y → j + 1 ≤ all.length → Fr h₀ L h' m → (∃ sl, h'.get? L = some { oF with slots := sl }) → News h₀ L h' ((x, islObj d (.ref a) (c + 1) (c + 1) t₁' t₂' t₃ t₄) :: (d, dictOf [] 0) :: (a, genObj g nm qn) :: (Lg, oL') :: rest) → gens'[g]? = some gs' → GenOnlyQ g s.gens gens' → GenGo w gb Lg all (j + 1) gs' oL' → Q (some (.str y t)) { s with heap := h', gens := gens', toks := tk })
    (hE : j = all.length → ∀ h' tk gens' ox oL', Fr h₀ L h' m → (∃ sl, h'.get? L = some { oF with slots := sl }) → News h₀ L h' ((x, ox) :: (d, dictOf [] 0) :: (a, genObj g nm qn) :: (Lg, oL') :: rest) → GenOnlyQ g s.gens gens' → Q none { s with heap := h', gens := gens', toks := tk }) :
    wpAny (model PP w) (ktrTop dp un gd cn cs L la ccd cl []) (pyNext (.ref x)) Q E s := by
  have hr : dp + 100 < recursionLimit := by show dp + 100 < 1000; omega
  have hc : un + 1000 < cLine := by show un + 1000 < 9900; omega
  have hcc : ¬ c < c := Int.lt_irrefl c
  k_dflt (refine' owit_next ?F ?X ?I ?hs ?hf ?_; (case F => k_asm); (case X => k_asm); (case I => k_inst); (case hs => k_is); (case hf => k_is))
  refine wpAny_call ?_
  (refine' enterT (binds := [(Str.ofString "self", .ref x)]) (env := envX cn cs L la ccd cl) F X N T rfl hk ?k6 ?k7 ?k8 ?k9 ?kB ?_ ?c2 ?c3 ?c4 ?c5; (case k6 => k_is); (case k7 => k_is); (case k8 => k_room); (case k9 => exact BindsTo.of_eq rfl); (case kB => exact locs rfl); (case c2 => exact rfl); (case c3 => exact rfl); (case c4 => exact rfl); (case c5 => decide); intro oF' L' h₁ hLo' tiC tiF neL hLL F' N'; obtain rfl : oF = oF' := Option.some.inj (hLo.symm.trans hLo'))
  have neX : x ≠ L := neL _ (.head _)
  have neD : d ≠ L := neL _ (.tail _ (.head _))
  have neA : a ≠ L := neL _ (.tail _ (.tail _ (.head _)))
  have neR : ∀ p ∈ rest, p.1 ≠ L := fun p hp => neL _ (.tail _ (.tail _ (.tail _ (.tail _ hp))))
  have neG : Lg ≠ L := neL _ (.tail _ (.tail _ (.tail _ (.head _))))
  have hx' : ∀ p ∈ rest ++ [(L, oF)], p.1 ≠ x := fun p hp => by
    rcases List.mem_append.mp hp with q | q
    · exact hx p q
    · rcases List.mem_cons.mp q with rfl | q
      · exact Ne.symm neX
      · exact nomatch q
  have hL' : ∀ p ∈ rest ++ [(L, oF)], p.1 ≠ Lg := fun p hp => by
    rcases List.mem_append.mp hp with q | q
    · exact hL p q
    · rcases List.mem_cons.mp q with rfl | q
      · exact Ne.symm neG
      · exact nomatch q
  have N1 : News h₀ L' h₁ ((x, islObj d (.ref a) c c t₁ t₂ t₃ t₄) :: (d, dictOf [] 0) :: (a, genObj g nm qn) :: (Lg, oL) :: (rest ++ [(L, oF)])) := N'
  clear N' F N
  dsimp only
  k_steps
  refine WhlIf.no (decide_eq_false hcc) ?_
  k_steps
  · rename_i y t h₄ k₅ gens₂ gs₂ oL₂ e₁ l₁ p₁ q₁ r₁ h₅ k₆ h₆ h₇ F₇ N₇
    obtain ⟨Fo, Lo, No⟩ := outT (new := (x, _) :: (d, _) :: (a, _) :: (Lg, _) :: rest) tiC ⟨oF.slots, rfl⟩ F₇ N₇ (ne4 neX neD neA neG neR)
    exact hY y t _ _ gens₂ gs₂ oL₂ _ _ e₁ l₁ Fo Lo No p₁ q₁ r₁
  · rename_i je e h₁' h' tk' gens' oL' Na Fa xa ga
    refine exl_first (new := (x, _) :: (d, _) :: (a, _) :: (Lg, _) :: rest) rfl tiF xa Fa Na (ne4 neX neD neA neG neR) (fun h2 tb ob otb sl Fs2 F2 N2 X2 ne ntb nee => ?_)
    have N3 : News h₀ L' h2 ((e, ob) :: (tb, otb) :: (x, _) :: (d, _) :: (a, _) :: (Lg, oL') :: (rest ++ [(L, { oF with slots := sl })])) := N2
    clear N2
    refine exl_flight none F2 N3 (.tail ne (.head ntb)) (.head _) X2 (fun h3 otb' F3 N4 X3 => ?_)
    have N5 : News h₀ L' h3 ((e, ob) :: (tb, otb') :: (x, _) :: (d, _) :: (a, _) :: (Lg, oL') :: (rest ++ [(L, { oF with slots := sl })])) := N4
    refine wpAny_handleBy_builtin (X := "StopIteration") (T := "BaseException") (b := true) (by rw [isSubtype_type]; kernel_rfl) (by rw [isSubtype_type]; kernel_rfl) (by rw [isSubtype_type]; kernel_rfl) ?_
    have hex : e ≠ x := Ne.symm (nee (x, _) (.head _))
    have htx : tb ≠ x := Ne.symm (ntb (x, _) (.head _))
    have hx2 : ∀ p ∈ rest ++ [(L, { oF with slots := sl })], p.1 ≠ x := fun p hp => by
      rcases List.mem_append.mp hp with q | q
      · exact hx p q
      · rcases List.mem_cons.mp q with rfl | q
        · exact Ne.symm neX
        · exact nomatch q
    k_steps
    all_goals (try exact ⟨ob, (N5 (e, ob) (.head _)).1, X3.cls⟩)
    rename Fr h₀ L' h3 _ => kF
    refine exl_flight none kF N5 (.tail ne (.head ntb)) (.head _) X3 (fun h4 otb2 F4 N6 X4 => ?_)
    have N7 : News h₀ L' h4 ((e, ob) :: (tb, otb2) :: (x, _) :: (d, _) :: (a, _) :: (Lg, oL') :: (rest ++ [(L, { oF with slots := sl })])) := N6
    clear N3 N4 N5 N6
    k_steps
    rename Fr h₀ L' _ _ => kF2
    rename News h₀ L' _ _ => kN
    have nt5 : ∀ {o1 o2 o3 o4 : Obj}, ∀ p ∈ (x, o1) :: (d, o2) :: (a, o3) :: (Lg, o4) :: (rest ++ [(L, { oF with slots := sl })]), p.1 ≠ tb := fun {o1 o2 o3 o4} =>
      ne4 (ntb (x, _) (.head _)) (ntb (d, _) (.tail _ (.head _))) (ntb (a, _) (.tail _ (.tail _ (.head _)))) (ntb (Lg, _) (.tail _ (.tail _ (.tail _ (.head _))))) (fun p hp => ntb p (.tail _ (.tail _ (.tail _ (.tail _ hp)))))
    refine exl_raise rfl rfl kF2 kN (.tail ne (.head nt5)) (.head _) X4 (fun h5 otb3 F5 N8 X5 => ?_)
    refine exl_notedBy rfl N8 (.tail _ (.head _)) (.head _) X5 ?_
    refine exl_back rfl F5 N8 (.tail ne (.head nt5)) (.head _) X5 (fun h6 otb4 F6 N9 X6 => ?_)
    refine exl_leaving rfl F6 N9 (.tail ne (.head nt5)) (.tail _ (.head _)) (.head _) X6 (fun h7 otb5 F7 N10 X7 => ?_)
    refine exl_stop N10 (.head _) X7 ?_
    obtain ⟨Fo, Lo, No⟩ := outT (new := (x, _) :: (d, _) :: (a, _) :: (Lg, _) :: rest) tiC ⟨sl, rfl⟩ F7 (fun p hp => N10 p (.tail _ (.tail _ hp))) (ne4 neX neD neA neG neR)
    exact hE je _ _ _ _ _ Fo Lo No (by first | exact ga | exact GenOnlyQ.trans (by assumption) ga)
end
end Mine

namespace Mine
/-! list(x) of an iterator x of a class of the text -/
/-- these values are the strings ys -/
noncomputable def Strs : List Value → List Str → Prop
  | [], [] => True
  | v :: vs, y :: ys => (∃ t, v = .str y t) ∧ Strs vs ys
  | _, _ => False
theorem Strs.snoc {y : Str} {t : Tok} : ∀ {vs : List Value} {ys : List Str}, Strs vs ys → Strs (vs ++ [.str y t]) (ys ++ [y])
  | [], [], _ => ⟨⟨t, rfl⟩, trivial⟩
  | _ :: _, _ :: _, h => ⟨h.1, h.2.snoc⟩
  | [], _ :: _, h => h.elim
  | _ :: _, [], h => h.elim
theorem Strs.length : ∀ {vs : List Value} {ys : List Str}, Strs vs ys → vs.length = ys.length
  | [], [], _ => rfl
  | _ :: _, _ :: _, h => congrArg (· + 1) h.2.length
  | [], _ :: _, h => h.elim
  | _ :: _, [], h => h.elim
theorem Strs.get : ∀ {vs : List Value} {ys : List Str}, Strs vs ys → ∀ {i : Nat} {y : Str}, ys[i]? = some y → ∃ t, vs[i]? = some (.str y t)
  | _ :: _, _ :: _, h, 0, _, e => by obtain ⟨t, rfl⟩ := h.1; exact ⟨t, by cases e; rfl⟩
  | _ :: _, _ :: _, h, i + 1, _, e => h.2.get (i := i) e
  | [], [], _, _, _, e => nomatch e
  | [], _ :: _, h, _, _, _ => h.elim
  | _ :: _, [], h, _, _, _ => h.elim
abbrev listOf (acc : Array Value) (c : Nat) : Obj := { cls := .type "list", data := .seq acc c }
structure Telling (prog : Program) (w : World) (A : Around) (I C S : Addr) (ys : List Str) (St : Nat → Shared → Prop) (Fin : Shared → Prop) : Prop where
  poke : ∀ j s f, St j s → St j { s with heap := s.heap.update S f }
  item : ∀ j s o (Q : Option Value → Shared → Prop) (E : Value → Shared → Prop), j < ys.length → St j s → s.heap.get? S = some o → (∀ y t s', ys[j]? = some y → St (j + 1) s' → s'.heap.get? S = some o → Q (some (.str y t)) s') → wpAny (model prog w) A (pyNext (.ref I)) Q E s
  done : ∀ s o (Q : Option Value → Shared → Prop) (E : Value → Shared → Prop), St ys.length s → s.heap.get? S = some o → (∀ s', Fin s' → s'.heap.get? S = some o → Q none s') → wpAny (model prog w) A (pyNext (.ref I)) Q E s
  iter : ∀ s o (Q : Value → Shared → Prop) (E : Value → Shared → Prop), St 0 s → s.heap.get? S = some o → (∀ s', St 0 s' → s'.heap.get? S = some o → Q (.ref I) s') → wpAny (model prog w) A (pyIter (.ref I)) Q E s
  type : ∀ s (Q : Value → Shared → Prop) (E : Value → Shared → Prop), St 0 s → Q (.ref C) s → wpAny (model prog w) A (typeOf (.ref I)) Q E s
  bare : ∀ nm s (Q : Option Value → Shared → Prop) (E : Value → Shared → Prop), nm = "__len__" ∨ nm = "__length_hint__" → St 0 s → Q none s → wpAny (model prog w) A (specialOf (.ref I) nm) Q E s
section
variable {prog : Program} {w : World} {A : Around} {E : Value → Shared → Prop} {s : Shared} {I C S : Addr} {ys : List Str} {St : Nat → Shared → Prop} {Fin : Shared → Prop} {R : Result → Shared → Prop} {res : Value}
theorem tell_loop (T : Telling prog w A.in1 I C S ys St Fin) (hn : ys.length ≤ sizeLine)
    (hR : ∀ s' acc' c', Fin s' → s'.heap.get? S = some (listOf acc' c') → Strs acc'.toList ys → R (.ok (.ret res)) s') :
    ∀ (k j : Nat) (s : Shared) (acc : Array Value) (c : Nat), j + k = ys.length → St j s → s.heap.get? S = some (listOf acc c) → Strs acc.toList (ys.take j) →
      codeAny (model prog w) A (.builtin "list.extend.loop" ⟨[.ref S, .ref I, res], []⟩) R s := by
  intro k
  induction k with
  | zero =>
    intro j s acc c hj st hS ha
    obtain rfl : j = ys.length := hj
    refine codeAny_builtin PySem.F.entry_extend_loop ?_
    rw [Around.under_plainId PySem.F.plain_extend_loop _]
    show wpAny _ A.in1 (pyNext (.ref I) >>= _) _ _ s
    rw [List.take_length] at ha
    exact wpAny_bind (T.done s _ _ _ st hS fun s' hf hS' => wpAny_pure (hR s' acc c hf hS' ha))
  | succ k ih =>
    intro j s acc c hj st hS ha
    refine codeAny_builtin PySem.F.entry_extend_loop ?_
    rw [Around.under_plainId PySem.F.plain_extend_loop _]
    show wpAny _ A.in1 (pyNext (.ref I) >>= _) _ _ s
    refine wpAny_bind (T.item j s _ _ _ (by omega) st hS fun y t s' hy st' hS' => ?_)
    show wpAny _ A.in1 (updateSeq S (·.push (.str y t)) >>= _) _ _ _
    have hl : acc.size = j := by
      have := ha.length
      rw [List.length_take, Nat.min_eq_left (by omega), Array.length_toList] at this
      exact this
    refine wpAny_bind ?_
    refine wpAny_updateSeq hS' rfl (wpAny_pure ⟨plainId_quiet PySem.F.plain_extend_loop _, ih (j + 1) _ (acc.push (.str y t)) _ (by omega) (T.poke _ _ _ st') (Heap.get?_update_self _ hS' rfl) ?_⟩) (by omega) (by show (acc.push _).size ≤ _; rw [Array.size_push]; omega)
    rw [List.take_add_one, hy, Array.toList_push]
    exact ha.snoc
/-- list(x) -/
theorem tell_list {Q : Value → Shared → Prop} (hS : S = s.heap.objs.size) (T : Telling prog w A.in1.in1 I C S ys St Fin) (hn : ys.length ≤ sizeLine) (hSI : S ≠ I)
    (st : St 0 { s with heap := s.heap.push (listOf #[] 0) })
    (hQ : ∀ s' acc c, Fin s' → s'.heap.get? S = some (listOf acc c) → Strs acc.toList ys → Q (.ref S) s') :
    wpAny (model prog w) A (call (.type "list") [.ref I]) Q E s := by
  subst hS
  refine callType_codes (Q₁ := fun v s₁ => v = .ref s.heap.objs.size ∧ s₁ = { s with heap := s.heap.push (listOf #[] 0) }) PySem.F.called_list (PySem.F.typeCall_list_1 _) PySem.F.entry_list_init (code_list_new _ ⟨rfl, rfl⟩) fun v s₁ hv => ?_
  obtain ⟨rfl, rfl⟩ := hv
  have g0 : (s.heap.push (listOf #[] 0)).get? s.heap.objs.size = some (listOf #[] 0) := Heap.get?_push_size _ rfl
  refine ⟨⟨_, g0, rfl⟩, PySem.F.args_list_init_2 _ _, ?_⟩
  unfold Builtin.«list.__init__»
  show wpAny _ _ (Builtin.List.listItems (.ref s.heap.objs.size) >>= fun old => updateSeq s.heap.objs.size (fun _ => #[]) >>= fun _ => letGo old.toList.reverse >>= fun _ => Builtin.List.listExtendWith (.ref s.heap.objs.size) (.ref I) .none) _ _ _
  refine wpAny_bind ?_
  unfold Builtin.List.listItems
  refine wpAny_bind (wpAny_seqItems g0 rfl (wpAny_pure ?_))
  refine wpAny_bind (wpAny_updateSeq g0 rfl ?_)
  refine wpAny_bind (wpAny_letGo ?_)
  have g1 := Heap.get?_update_self (Obj.mapSeq (fun _ => (#[] : Array Value))) g0 rfl
  have st1 := T.poke _ _ (Obj.mapSeq (fun _ => (#[] : Array Value))) st
  unfold Builtin.List.listExtendWith
  refine wpAny_bind (T.type _ _ _ st1 ?_)
  rw [if_neg (by simp [Builtin.List.listSameRef, hSI, show (Value.ref C == Value.type "list") = false from rfl, show (Value.ref C == Value.type "tuple") = false from rfl])]
  refine wpAny_bind (T.iter _ _ _ _ st1 g1 fun s1 st1 g1 => wpAny_bind (wpAny_holding ?_))
  unfold Builtin.List.listLengthHint
  refine wpAny_bind (T.bare _ _ _ _ (.inl rfl) st1 ?_)
  refine wpAny_bind (T.bare _ _ _ _ (.inr rfl) st1 (wpAny_pure ?_))
  refine wpAny_bind (wpAny_rule (wpAny_bind ?_))
  unfold Builtin.List.listTouch
  refine wpAny_bind (wpAny_updateSeq g1 rfl ?_)
  have g2 := Heap.get?_update_self (Obj.mapSeq (·.push Value.none)) g1 rfl
  have st2 := T.poke _ _ (Obj.mapSeq (·.push Value.none)) st1
  refine wpAny_updateSeq (hz := by seq_fits) g2 rfl (wpAny_pure ?_)
  have g3 := Heap.get?_update_self (Obj.mapSeq (·.pop)) g2 rfl
  have st3 := T.poke _ _ (Obj.mapSeq (·.pop)) st2
  exact ⟨plainId_quiet PySem.F.plain_extend_loop _, tell_loop T hn (fun s' acc' c' hf hS' ha => ⟨rfl, hQ s' acc' c' hf hS' ha⟩) ys.length 0 _ _ _ (Nat.zero_add _) st3 g3 trivial⟩
end
end Mine

namespace Mine
local macro_rules | `(tactic| k_room) => `(tactic| ((try simp only [depth_mark, depth_under_make, depth_under_kw, depth_in1, depth_deeper, depth_caller]); (try dsimp only [ktrTop]); omega))
/-- what stands in h beside the ground and beside the addresses ex -/
noncomputable def others (h₀ h : Heap) (ex : List Addr) : List (Addr × Obj) :=
  (List.range h.objs.size).filterMap fun b => if b ∈ ex ∨ (h₀.get? b).isSome = true then none else (h.get? b).map (b, ·)
theorem mem_others {h₀ h : Heap} {ex : List Addr} {b : Addr} {o : Obj} : (b, o) ∈ others h₀ h ex ↔ b ∉ ex ∧ h₀.get? b = none ∧ h.get? b = some o := by
  unfold others
  rw [List.mem_filterMap]
  constructor
  · rintro ⟨c, _, hc⟩
    split at hc
    · cases hc
    · next hn =>
      cases hg : h.get? c with
      | none => rw [hg] at hc; cases hc
      | some o' =>
        rw [hg] at hc
        obtain ⟨rfl, rfl⟩ := Prod.mk.inj (Option.some.inj hc)
        refine ⟨fun q => hn (.inl q), ?_, hg⟩
        cases h0 : h₀.get? c with
        | none => rfl
        | some _ => exact absurd (.inr (by rw [h0]; rfl)) hn
  · rintro ⟨h1, h2, h3⟩
    refine ⟨b, List.mem_range.mpr (Heap.lt_size h3), ?_⟩
    rw [if_neg (by rintro (q | q); exact h1 q; rw [h2] at q; cases q), h3]
    rfl
/-- from s₀ to s nothing but wr and the generator g changed -/
structure Kt (wr : List Addr) (g : Nat) (s₀ s : Shared) : Prop where
  heap : ∀ b o, b ∉ wr → s₀.heap.get? b = some o → s.heap.get? b = some o
  gens : GenOnlyQ g s₀.gens s.gens
  drawn : s.drawn = s₀.drawn
  os : s.os = s₀.os
theorem Kt.trans {wr : List Addr} {g : Nat} {a b c : Shared} (x : Kt wr g a b) (y : Kt wr g b c) : Kt wr g a c :=
  ⟨fun p o hp e => y.heap p o hp (x.heap p o hp e), x.gens.trans y.gens, y.drawn.trans x.drawn, y.os.trans x.os⟩
section
variable {w : World} {dp un : Nat} {gd : Option (List Code)} {cn : Str} {cs : Scope} {L la : Addr} {ccd : Value} {cl : List (Str × Addr)} {h₀ gb : Heap} {m : Str → Option Value} {mean : ExcName → Option Value} {mg mb : Str → Option Value}
  {x d a Lg g S : Nat} {all : List Str} {nm qn : Value} {t₃ t₄ : Tok} {oF : Obj} {s₀ : Shared}
structure IslCore (w : World) (gb : Heap) (s₀ : Shared) (oF : Obj) (L x d a Lg g : Nat) (all : List Str) (t₃ t₄ : Tok) (c n : Int) (k : Nat) (s : Shared) : Prop where
  kt : Kt [x, Lg, L] g s₀ s
  fr : ∃ sl, s.heap.get? L = some { oF with slots := sl }
  isl : ∃ t₁ t₂, s.heap.get? x = some (islObj d (.ref a) c n t₁ t₂ t₃ t₄)
  gen : ∃ oL gs, s.heap.get? Lg = some oL ∧ s.gens[g]? = some gs ∧ GenGo w gb Lg all k gs oL
  le : k ≤ all.length
noncomputable def IslSt (w : World) (gb : Heap) (s₀ : Shared) (oF : Obj) (L x d a Lg g : Nat) (all : List Str) (t₃ t₄ : Tok) : Nat → Shared → Prop
  | 0 => IslCore w gb s₀ oF L x d a Lg g all t₃ t₄ 0 1 0
  | j + 1 => IslCore w gb s₀ oF L x d a Lg g all t₃ t₄ ((j + 2 : Nat) : Int) ((j + 2 : Nat) : Int) (j + 2)
noncomputable def IslFin (s₀ : Shared) (oF : Obj) (L x Lg g : Nat) (s : Shared) : Prop := Kt [x, Lg, L] g s₀ s ∧ ∃ sl, s.heap.get? L = some { oF with slots := sl }
structure IslGround (w : World) (gb h₀ : Heap) (s₀ : Shared) (oF : Obj) (m : Str → Option Value) (L x d a Lg g : Nat) (nm qn : Value) (mean : ExcName → Option Value) (mg mb : Str → Option Value) : Prop where
  keep : ∀ b o, h₀.get? b = some o → s₀.heap.get? b = some o
  hL : h₀.get? L = none
  hx : h₀.get? x = none
  hdd : h₀.get? d = none
  ha : h₀.get? a = none
  hg : h₀.get? Lg = none
  od : s₀.heap.get? d = some (dictOf [] 0)
  oa : s₀.heap.get? a = some (genObj g nm qn)
  ne : L < Lg ∧ Lg < a ∧ a < d ∧ d < x
  tc : TI.Caller h₀ L m oF
  X : (hd.heap_39 w.params).In h₀
  T : TP mean mg mb h₀
  Gb : Gnd w gb
  hgb : ∀ b o, gb.get? b = some o → h₀.get? b = some o
  hgL : gb.get? Lg = none
theorem IslCore.fr_ {c n : Int} {k : Nat} {s : Shared} (G : IslGround w gb h₀ s₀ oF m L x d a Lg g nm qn mean mg mb) (C : IslCore w gb s₀ oF L x d a Lg g all t₃ t₄ c n k s) : Fr h₀ L s.heap m := by
  obtain ⟨sl, e⟩ := C.fr
  refine ⟨G.tc.ns _ sl e, fun b o h => C.kt.heap b o (fun q => ?_) (G.keep b o h), G.tc.above⟩
  rcases List.mem_cons.mp q with rfl | q
  · rw [G.hx] at h; cases h
  · rcases List.mem_cons.mp q with rfl | q
    · rw [G.hg] at h; cases h
    · rcases List.mem_cons.mp q with rfl | q
      · rw [G.hL] at h; cases h
      · exact nomatch q
theorem IslCore.news {c n : Int} {k : Nat} {s : Shared} (G : IslGround w gb h₀ s₀ oF m L x d a Lg g nm qn mean mg mb) (C : IslCore w gb s₀ oF L x d a Lg g all t₃ t₄ c n k s) :
    ∃ t₁ t₂ oL gs, s.gens[g]? = some gs ∧ GenGo w gb Lg all k gs oL ∧ News h₀ L s.heap ((x, islObj d (.ref a) c n t₁ t₂ t₃ t₄) :: (d, dictOf [] 0) :: (a, genObj g nm qn) :: (Lg, oL) :: others h₀ s.heap [x, d, a, Lg, L]) := by
  obtain ⟨t₁, t₂, ex⟩ := C.isl
  obtain ⟨oL, gs, e1, e2, e3⟩ := C.gen
  obtain ⟨n1, n2, n3, n4⟩ := G.ne
  have nd : d ∉ [x, Lg, L] := by simp; omega
  have na : a ∉ [x, Lg, L] := by simp; omega
  refine ⟨t₁, t₂, oL, gs, e2, e3, fun p hp => ?_⟩
  rcases List.mem_cons.mp hp with rfl | hp
  · exact ⟨ex, show x ≠ L by omega, G.hx⟩
  · rcases List.mem_cons.mp hp with rfl | hp
    · exact ⟨C.kt.heap _ _ nd G.od, show d ≠ L by omega, G.hdd⟩
    · rcases List.mem_cons.mp hp with rfl | hp
      · exact ⟨C.kt.heap _ _ na G.oa, show a ≠ L by omega, G.ha⟩
      · rcases List.mem_cons.mp hp with rfl | hp
        · exact ⟨e1, show Lg ≠ L by omega, G.hg⟩
        · obtain ⟨h1, h2, h3⟩ := mem_others.mp (show (p.1, p.2) ∈ _ from hp)
          exact ⟨h3, fun q => h1 (by rw [q]; simp), h2⟩
theorem isl_kept {s : Shared} {h' : Heap} {gens' : Array GenState} {tk : Nat} {ox oL : Obj} {mm : Str → Option Value} (F' : Fr h₀ L h' mm) (hd : s.heap.get? d = some (dictOf [] 0)) (ha : s.heap.get? a = some (genObj g nm qn)) (k0 : ∀ b o, h₀.get? b = some o → s.heap.get? b = some o)
    (N' : News h₀ L h' ((x, ox) :: (d, dictOf [] 0) :: (a, genObj g nm qn) :: (Lg, oL) :: others h₀ s.heap [x, d, a, Lg, L])) (q : GenOnlyQ g s.gens gens') : Kt [x, Lg, L] g s { s with heap := h', gens := gens', toks := tk } := by
  refine ⟨fun b o hb e => ?_, q, rfl, rfl⟩
  cases h0 : h₀.get? b with
  | some o' =>
    have := k0 b o' h0
    rw [e] at this
    cases this
    exact F'.keep _ _ h0
  | none =>
    rcases Decidable.em (b = d) with rfl | nd
    · rw [hd] at e; cases e
      exact (N' _ (.tail _ (.head _))).1
    · rcases Decidable.em (b = a) with rfl | na
      · rw [ha] at e; cases e
        exact (N' _ (.tail _ (.tail _ (.head _)))).1
      · refine (N' (b, o) (.tail _ (.tail _ (.tail _ (.tail _ (mem_others.mpr ⟨fun q => hb ?_, h0, e⟩)))))).1
        simp only [List.mem_cons, List.not_mem_nil, or_false] at q ⊢
        rcases q with q | q | q | q | q
        · exact .inl q
        · exact absurd q nd
        · exact absurd q na
        · exact .inr (.inl q)
        · exact .inr (.inr q)
theorem isl_next_any {c n : Int} {k : Nat} {s : Shared} {Q : Option Value → Shared → Prop} {E : Value → Shared → Prop} (hk : cs.kind = .function) (hdp : dp ≤ 400) (hu : un ≤ 3000) (G : IslGround w gb h₀ s₀ oF m L x d a Lg g nm qn mean mg mb)
    (C : IslCore w gb s₀ oF L x d a Lg g all t₃ t₄ c n k s) (hc : (c = 0 ∧ n = 1 ∧ k = 0) ∨ (c = n))
    (hY : ∀ y t s' k', k' = (if c = n then k else 1) → all[k']? = some y → (c = n → IslCore w gb s₀ oF L x d a Lg g all t₃ t₄ (c + 1) (c + 1) (k' + 1) s') → (c ≠ n → IslCore w gb s₀ oF L x d a Lg g all t₃ t₄ 2 2 2 s') → Kt [x, Lg, L] g s s' → Q (some (.str y t)) s')
    (hE : (if c = n then k = all.length else all.length ≤ 1) → ∀ s', Kt [x, Lg, L] g s s' → (∃ sl, s'.heap.get? L = some { oF with slots := sl }) → Q none s') :
    wpAny (model PP w) (ktrTop dp un gd cn cs L la ccd cl []) (pyNext (.ref x)) Q E s := by
  obtain ⟨sl, eL⟩ := C.fr
  have F := C.fr_ G
  obtain ⟨t₁, t₂, oL, gs, e2, e3, N⟩ := C.news G
  obtain ⟨n1, n2, n3, n4⟩ := G.ne
  have hd := (N _ (.tail _ (.head _))).1
  have ha := (N _ (.tail _ (.tail _ (.head _)))).1
  have hx : ∀ p ∈ others h₀ s.heap [x, d, a, Lg, L], p.1 ≠ x := fun p hp q => (mem_others.mp (show (p.1, p.2) ∈ _ from hp)).1 (by rw [q]; simp)
  have hg : ∀ p ∈ others h₀ s.heap [x, d, a, Lg, L], p.1 ≠ Lg := fun p hp q => (mem_others.mp (show (p.1, p.2) ∈ _ from hp)).1 (by rw [q]; simp)
  rcases Decidable.em (c = n) with rfl | hne
  · refine isl_next_more F G.X G.T hk C.le hdp hu eL N hx hg n2 n3 n4 G.Gb G.hgb G.hgL e2 e3 ?_ ?_
    · intro y t h' tk gens' gs' oL' t₁' t₂' ey hl F' L' N' eg q go
      have K := isl_kept (tk := tk) F' hd ha F.keep N' q
      refine hY y t _ k (by rw [if_pos rfl]) ey (fun _ => ⟨C.kt.trans K, ?_, ⟨t₁', t₂', (N' _ (.head _)).1⟩, ⟨oL', gs', (N' _ (.tail _ (.tail _ (.tail _ (.head _))))).1, eg, go⟩, hl⟩) (fun z => absurd rfl z) K
      obtain ⟨sl', e⟩ := L'
      exact ⟨sl', e⟩
    · intro je h' tk gens' ox oL' F' L' N' q
      obtain ⟨sl', e⟩ := L'
      exact hE (by rw [if_pos rfl]; exact je) _ (isl_kept F' hd ha F.keep N' q) ⟨sl', e⟩
  · obtain ⟨rfl, rfl, rfl⟩ : c = 0 ∧ n = 1 ∧ k = 0 := hc.resolve_right hne
    refine isl_next_first F G.X G.T hk hdp hu eL N hx hg n2 n3 n4 G.Gb G.hgb G.hgL e2 e3 ?_ ?_
    · intro y t h' tk gens' gs' oL' t₁' t₂' ey hl F' L' N' eg q go
      have K := isl_kept (tk := tk) F' hd ha F.keep N' q
      refine hY y t _ 1 (by rw [if_neg hne]) ey (fun z => absurd z hne) (fun _ => ⟨C.kt.trans K, ?_, ⟨t₁', t₂', (N' _ (.head _)).1⟩, ⟨oL', gs', (N' _ (.tail _ (.tail _ (.tail _ (.head _))))).1, eg, go⟩, hl⟩) K
      obtain ⟨sl', e⟩ := L'
      exact ⟨sl', e⟩
    · intro je h' tk gens' ox oL' F' L' N' q
      obtain ⟨sl', e⟩ := L'
      exact hE (by rw [if_neg hne]; exact je) _ (isl_kept F' hd ha F.keep N' q) ⟨sl', e⟩
theorem IslCore.poke {c n : Int} {k : Nat} {s : Shared} (hS : s₀.heap.get? S = none) (n1 : S ≠ x) (n2 : S ≠ Lg) (n3 : S ≠ L) (f : Obj → Obj) (C : IslCore w gb s₀ oF L x d a Lg g all t₃ t₄ c n k s) :
    IslCore w gb s₀ oF L x d a Lg g all t₃ t₄ c n k { s with heap := s.heap.update S f } := by
  obtain ⟨kt, ⟨sl, e1⟩, ⟨t₁, t₂, e2⟩, ⟨oL, gs, e3, e4, e5⟩, le⟩ := C
  refine ⟨⟨fun b o hb e => ?_, kt.gens, kt.drawn, kt.os⟩, ⟨sl, (Heap.get?_update_other _ _ n3).trans e1⟩, ⟨t₁, t₂, (Heap.get?_update_other _ _ n1).trans e2⟩, ⟨oL, gs, (Heap.get?_update_other _ _ n2).trans e3, e4, e5⟩, le⟩
  exact (Heap.get?_update_other _ _ (fun q : S = b => by rw [← q, hS] at e; cases e)).trans (kt.heap b o hb e)
theorem IslCore.grow {c n : Int} {k tk : Nat} {s : Shared} {h' : Heap} (hk : ∀ b o, s.heap.get? b = some o → h'.get? b = some o) (C : IslCore w gb s₀ oF L x d a Lg g all t₃ t₄ c n k s) :
    IslCore w gb s₀ oF L x d a Lg g all t₃ t₄ c n k { s with heap := h', toks := tk } := by
  obtain ⟨kt, ⟨sl, e1⟩, ⟨t₁, t₂, e2⟩, ⟨oL, gs, e3, e4, e5⟩, le⟩ := C
  exact ⟨⟨fun b o hb e => hk b o (kt.heap b o hb e), kt.gens, kt.drawn, kt.os⟩, ⟨sl, hk _ _ e1⟩, ⟨t₁, t₂, hk _ _ e2⟩, ⟨oL, gs, hk _ _ e3, e4, e5⟩, le⟩
theorem isl_inst {c n : Int} {k : Nat} {s : Shared} (G : IslGround w gb h₀ s₀ oF m L x d a Lg g nm qn mean mg mb) (C : IslCore w gb s₀ oF L x d a Lg g all t₃ t₄ c n k s) : ∃ ox, InstAt s.heap x ox 68 (some (dictOf [] 0)) := by
  obtain ⟨t₁, t₂, oL, gs, e2, e3, N⟩ := C.news G
  exact ⟨_, (N _ (.head _)).1, rfl, rfl, (N _ (.tail _ (.head _))).1⟩
theorem isl_iter {c n : Int} {k : Nat} {s : Shared} {Q : Value → Shared → Prop} {E : Value → Shared → Prop} (hk : cs.kind = .function) (hdp : dp ≤ 400) (hu : un ≤ 3000) (G : IslGround w gb h₀ s₀ oF m L x d a Lg g nm qn mean mg mb)
    (C : IslCore w gb s₀ oF L x d a Lg g all t₃ t₄ c n k s) (hY : ∀ h' tk, (∀ b o, s.heap.get? b = some o → h'.get? b = some o) → Q (.ref x) { s with heap := h', toks := tk }) :
    wpAny (model PP w) (ktrTop dp un gd cn cs L la ccd cl []) (pyIter (.ref x)) Q E s := by
  obtain ⟨ox, I⟩ := isl_inst G C
  have F := C.fr_ G
  have X := G.X.keeps F.keep
  have T := G.T.keeps F.keep
  have hr : dp + 100 < recursionLimit := by show dp + 100 < 1000; omega
  refine owit_iter (C := 68) (f := 57) F G.X I ?hs ?hf ?_
  case hs => k_is
  case hf => k_is
  refine wpAny_call ?_
  (refine' enter (binds := [(Str.ofString "self", .ref x)]) X T ?k6 ?k7 ?k8 ?k9 ?kB ?_ ?c2 ?c3 ?c4 ?c5; (case k6 => k_is); (case k7 => k_is); (case k8 => k_room); (case k9 => exact BindsTo.of_eq rfl); (case kB => exact locs rfl); (case c2 => exact rfl); (case c3 => exact rfl); (case c4 => exact rfl); (case c5 => decide); intro L' h₁ hL' F' N')
  dsimp only
  k_steps
  have C' := C.grow (tk := tk) F'.keep
  obtain ⟨ox', I'⟩ := isl_inst G C'
  exact owit_it (C := 68) (g := .ref 64) (C'.fr_ G) G.X I' (by k_is) (hY _ _ F'.keep)
theorem isl_tell (hk : cs.kind = .function) (hdp : dp ≤ 400) (hu : un ≤ 3000) (G : IslGround w gb h₀ s₀ oF m L x d a Lg g nm qn mean mg mb) (hS : s₀.heap.get? S = none) (n1 : S ≠ x) (n2 : S ≠ Lg) (n3 : S ≠ L) :
    Telling PP w (ktrTop dp un gd cn cs L la ccd cl []) x 68 S (all.drop 1) (IslSt w gb s₀ oF L x d a Lg g all t₃ t₄) (IslFin s₀ oF L x Lg g) where
  poke := fun j s f st => by
    cases j with
    | zero => exact IslCore.poke hS n1 n2 n3 f st
    | succ j => exact IslCore.poke hS n1 n2 n3 f st
  item := fun j s o Q E hj st ho hQ => by
    have hSw : S ∉ [x, Lg, L] := by simp [n1, n2, n3]
    rw [List.length_drop] at hj
    cases j with
    | zero =>
      refine isl_next_any hk hdp hu G st (.inl ⟨rfl, rfl, rfl⟩) (fun y t s' k' ek ey _ h2 K => ?_) (fun je => ?_)
      · obtain rfl : k' = 1 := ek
        exact hQ y t s' (by rw [List.getElem?_drop]; exact ey) (h2 (by decide)) (K.heap _ _ hSw ho)
      · have je' : all.length ≤ 1 := je
        omega
    | succ j =>
      refine isl_next_any hk hdp hu G st (.inr rfl) (fun y t s' k' ek ey h1 _ K => ?_) (fun je => ?_)
      · rw [if_pos rfl] at ek
        subst ek
        exact hQ y t s' (by rw [List.getElem?_drop, Nat.add_comm]; exact ey) (h1 rfl) (K.heap _ _ hSw ho)
      · rw [if_pos rfl] at je
        omega
  done := fun s o Q E st ho hQ => by
    have hSw : S ∉ [x, Lg, L] := by simp [n1, n2, n3]
    rw [List.length_drop] at st
    generalize hn : all.length - 1 = n at st
    cases n with
    | zero =>
      refine isl_next_any hk hdp hu G st (.inl ⟨rfl, rfl, rfl⟩) (fun y t s' k' ek ey _ h2 K => ?_) (fun je s' K hl => hQ s' ⟨IslCore.kt st |>.trans K, hl⟩ (K.heap _ _ hSw ho))
      obtain rfl : k' = 1 := ek
      have := (List.getElem?_eq_some_iff.mp ey).1
      omega
    | succ j =>
      refine isl_next_any hk hdp hu G st (.inr rfl) (fun y t s' k' ek ey h1 _ K => ?_) (fun je s' K hl => hQ s' ⟨IslCore.kt st |>.trans K, hl⟩ (K.heap _ _ hSw ho))
      rw [if_pos rfl] at ek
      subst ek
      have := (List.getElem?_eq_some_iff.mp ey).1
      omega
  iter := fun s o Q E st ho hQ => isl_iter hk hdp hu G st fun h' tk hk' => hQ _ (IslCore.grow hk' st) (hk' _ _ ho)
  type := fun s Q E st hQ => by
    obtain ⟨ox, I⟩ := isl_inst G st
    exact I.type.here hQ
  bare := fun nm s Q E hnm st hQ => by
    obtain ⟨ox, I⟩ := isl_inst G st
    have X := G.X.keeps (IslCore.fr_ G st).keep
    unfold specialOf
    rcases hnm with rfl | rfl
    · refine wpAny_bind (I.type.here ((looks_findIn (r := none) X ?_).here hQ))
      k_is
    · refine wpAny_bind (I.type.here ((looks_findIn (r := none) X ?_).here hQ))
      k_is
end
end Mine

namespace Mine
/-! set(x) of a list of strings -/
theorem typeCall_set_1 (a : Value) : checkTypeCall "set" ⟨[a], []⟩ = pure () := by kernel_rfl
theorem newCall_set_1 (a : Value) : checkBuiltinCall "set.__new__" ⟨[.type "set", a], []⟩ = pure () := by kernel_rfl
theorem entry_set_loop : entryFor table "set.update.loop" = some Builtin.«set.update.loop» := entryFor_of_tree (by kernel_rfl)
theorem plain_set_loop : plainId "set.update.loop" = true := by decide +kernel
theorem isStr_mk (y : Str) (t : Tok) : Value.isStrOf y (.str y t) = true := by simp [Value.isStrOf]
theorem setOf_at {prog : Program} {w : World} {h h' : Heap} {D : Addr} {S : Str → Bool} {n : Nat} (e : ∀ o, h.get? D = some o → h'.get? D = some o) (x : h.SetOf (PySem.strKind prog w) D S n) : h'.SetOf (PySem.strKind prog w) D S n := by
  obtain ⟨o, es, ep, t, ho, r⟩ := x
  exact ⟨o, es, ep, t, e o ho, r⟩
section
variable {prog : Program} {w : World} {A : Around} {E : Value → Shared → Prop} {s : Shared} {R : Result → Shared → Prop}
theorem set_loop {h₀ : Heap} {l it D : Addr} {acc : Array Value} {c : Nat} {ys : List Str} (hh : A.handled = none) (hl : h₀.get? l = some (listOf acc c)) (hit : h₀.get? it = none) (hD : h₀.get? D = none) (hDi : D ≠ it) (ha : Strs acc.toList ys) (hn : ys.length ≤ 4000)
    (s₀ : Shared) (hQ : ∀ h' tk n, (∀ b o, h₀.get? b = some o → h'.get? b = some o) → h'.SetOf (PySem.strKind prog w) D (fun k => decide (k ∈ ys)) n → R (.ok (.ret .none)) { s₀ with heap := h', toks := tk }) :
    ∀ (k i n : Nat) (h : Heap) (tk : Nat), i + k = ys.length → (∀ b o, h₀.get? b = some o → h.get? b = some o) → h.IsListIter it l i → h.SetOf (PySem.strKind prog w) D (fun k => decide (k ∈ ys.take i)) n → n ≤ i →
      codeAny (model prog w) A (.builtin "set.update.loop" ⟨[.ref D, .ref it], []⟩) R { s₀ with heap := h, toks := tk } := by
  intro k
  have hlen : acc.size = ys.length := by rw [← Array.length_toList]; exact ha.length
  induction k with
  | zero =>
    intro i n h tk hi hk hI hS hn
    obtain rfl : i = ys.length := hi
    refine codeAny_builtin entry_set_loop ?_
    rw [Around.under_plainId plain_set_loop _]
    show wpAny _ A.in1 (pyNext (.ref it) >>= _) _ _ _
    refine wpAny_bind (wpAny_pyNext_list_end (items := acc) hh hI ⟨_, hk _ _ hl, rfl, c, rfl⟩ (by rw [Array.getElem?_eq_none (by omega)]) fun h' hx => wpAny_pure ?_)
    rw [List.take_length] at hS
    exact hQ h' tk n (fun b o e => hx b o (fun q => by rw [q, hit] at e; cases e) (hk b o e)) (setOf_at (fun o e => hx D o hDi e) hS)
  | succ k ih =>
    intro i n h tk hi hk hI hS hn
    refine codeAny_builtin entry_set_loop ?_
    rw [Around.under_plainId plain_set_loop _]
    show wpAny _ A.in1 (pyNext (.ref it) >>= _) _ _ _
    have hlt : i < ys.length := by omega
    obtain ⟨t, ht⟩ := ha.get (List.getElem?_eq_getElem hlt)
    refine wpAny_bind (wpAny_pyNext_list_item (items := acc) (x := .str ys[i] t) hI ⟨_, hk _ _ hl, rfl, c, rfl⟩ (by rw [← Array.getElem?_toList]; exact ht) fun h' hI' hb => ?_)
    show wpAny _ A.in1 (holding _ (setAdd D _) >>= _) _ _ _
    refine wpAny_bind (wpAny_holding ?_)
    unfold setAdd
    refine wpAny_holding (wpAny_bind ((PySem.strKind prog w).pyHash (k := ys[i]) (isStr_mk _ t) ?_))
    refine wpAny_setAddHashed_of (knd := PySem.strKind prog w) (k := ys[i]) (isStr_mk _ t) rfl (setOf_at (fun o e => (hb.2 D hDi).trans e) hS) (by show n + 1 < 4096; omega) fun h'' hb' hS' => ?_
    have e : (fun k' => decide (k' ∈ ys.take i) || decide (k' = ys[i])) = fun k' => decide (k' ∈ ys.take (i + 1)) := by
      funext y
      rw [List.take_add_one, List.getElem?_eq_getElem hlt, Bool.eq_iff_iff]
      simp only [List.mem_append, Option.toList_some, List.mem_singleton, Bool.or_eq_true, decide_eq_true_eq]
    rw [e] at hS'
    obtain ⟨o, e1, e2⟩ := hI'
    exact wpAny_pure ⟨plainId_quiet plain_set_loop _, ih (i + 1) _ h'' (tk + 1) (by omega) (fun b o e => (hb'.2 b fun q => by rw [q, hD] at e; cases e).trans ((hb.2 b fun q => by rw [q, hit] at e; cases e).trans (hk b o e)))
      ⟨o, (hb'.2 it (Ne.symm hDi)).trans e1, e2⟩ hS' (by split <;> omega)⟩
theorem check_set_1 {M : Model} {self x : Value} {Q : Unit → Shared → Prop} (hT : s.TypeIs self "set") (hQ : Q () s) : wpAny M A (checkBuiltinCall "set.__init__" ⟨[self, x], []⟩) Q E s := by
  simp only [checkBuiltinCall, kind_set_init, split_set_init, sig_set_init]
  refine wpAny_bind (wpAny_isInstance hT sub_set_self ?_)
  simp only [Bool.not_true, Bool.false_eq_true, if_false]
  unfold Bind.checkArgs
  dsimp only
  refine wpAny_bind (m := Bind.printed "set" true _ _) (PyProof.Rows.printed_name (by decide) ?_)
  refine wpAny_bind (m := Bind.printed "*" false _ _) (PyProof.Rows.printed_star (self := self) rfl hT fun short => ?_)
  have hn : (if (Manifest.Receiver.self == Manifest.Receiver.none) = true then [self, x].length else [self, x].length - 1) = 1 := by simp [show (Manifest.Receiver.self == Manifest.Receiver.none) = false by decide]
  rw [hn]
  simp only [List.map_nil]
  rw [show Bind.check ⟨.positional, "set", "*", .self, [⟨"iterable", .posOnly, false⟩]⟩ "set" short 1 [] = pure () by simp [Bind.check, Bind.checkCount, Bind.isPositional, show (Manifest.ParamKind.posOnly == Manifest.ParamKind.posOnly) = true by decide]]
  exact wpAny_pure hQ
theorem new_set_1 {a : Value} {Q₁ : Value → Shared → Prop} (h : ∀ led : Bool, Q₁ (.ref s.heap.objs.size) { s with heap := s.heap.push { cls := .type "set", dict := none, data := .set #[] 0 (.fresh 0 0 led) } }) :
    codeAny (model prog w) A (.call (.builtin "set.__new__") ⟨[.type "set", a], []⟩) (wants Q₁ E) s := by
  refine codeAny_of_tree ?_
  show wpAny _ A.in1 (do checkBuiltinCall "set.__new__" ⟨[.type "set", a], []⟩; again (.builtin "set.__new__" ⟨[.type "set", a], []⟩)) _ _ s
  refine wpAny_bind (wpAny_of_eq (newCall_set_1 a) (wpAny_pure ⟨plainId_quiet PySem.F.plain_set_new _, codeAny_builtin PySem.F.entry_set_new ?_⟩))
  rw [Around.under_plainId PySem.F.plain_set_new _]
  unfold Builtin.«set.__new__» Builtin.Frozenset.newClass
  have hsub := sub_set_self
  obtain ⟨hp, g, d, tk, os⟩ := s
  dsimp only
  wp_walk
  refine wpAny_askSetting (wpAny_pure ?_)
  dsimp only
  simp only [newObj]
  exact wpAny_bind (wpAny_alloc (wpAny_pure (wpAny_pure (h _))))
theorem call_set_1 {l : Addr} {acc : Array Value} {c : Nat} {ys : List Str} {Q : Value → Shared → Prop} (hh : A.handled = none) (hl : s.heap.get? l = some (listOf acc c)) (ha : Strs acc.toList ys) (hn : ys.length ≤ 4000)
    (hQ : ∀ D h' tk n, s.heap.objs.size ≤ D → (∀ b o, s.heap.get? b = some o → h'.get? b = some o) → s.heap.get? D = none → h'.SetOf (PySem.strKind prog w) D (fun k => decide (k ∈ ys)) n → Q (.ref D) { s with heap := h', toks := tk }) :
    wpAny (model prog w) A (call (.type "set") [.ref l]) Q E s := by
  obtain ⟨c₁, tl, hmro⟩ := PySem.F.called_set.mro
  have hmade := PySem.F.called_set.made
  have hsub := PySem.F.called_set.sub
  refine wpAny_call (codeAny_of_tree ?_)
  show wpAny _ _ (callAny (.type "set") _) _ _ _
  refine wpAny_pure ⟨Code.quiet_builtin _ (by decide +kernel), codeAny_builtin PySem.F.entry_type_call ?_⟩
  rw [Around.under_plain (weight_type_call_type "set" [.ref l] []) rfl]
  have h1 := PySem.F.called_set.notType
  have h2 := PySem.F.called_set.canCreate
  have hct := typeCall_set_1 (.ref l)
  repeat (any_goals (first | assumption | wp_step))
  refine codeAny_mono (new_set_1 (E := E) (Q₁ := fun obj s₁ => ∃ led : Bool, obj = .ref s.heap.objs.size ∧ s₁ = { s with heap := s.heap.push { cls := .type "set", dict := none, data := .set #[] 0 (.fresh 0 0 led) } }) fun led => ⟨led, rfl, rfl⟩) fun r s₁ hr => ?_
  cases r with
  | error e => exact hr
  | ok fl =>
    cases fl with
    | ret obj =>
      obtain ⟨led, rfl, rfl⟩ := hr
      have g0 : (s.heap.push { cls := .type "set", dict := none, data := .set #[] 0 (.fresh 0 0 led) }).get? s.heap.objs.size = some { cls := .type "set", dict := none, data := .set #[] 0 (.fresh 0 0 led) } := Heap.get?_push_size _ rfl
      have hT : Shared.TypeIs { s with heap := s.heap.push { cls := .type "set", dict := none, data := .set #[] 0 (.fresh 0 0 led) } } (.ref s.heap.objs.size) "set" := ⟨_, g0, rfl⟩
      have hli := PySem.F.called_set.init.lookup
      have hbi := PySem.F.called_set.init.bind (.ref s.heap.objs.size)
      repeat (any_goals (first | assumption | wp_step))
      refine codeAny_mono (codeAny_call_builtin (R := wants (fun r s₂ => r = .none ∧ Q (.ref s.heap.objs.size) s₂) E) PySem.F.called_set.init.plain PySem.F.entry_set_init (check_set_1 hT ?_)) fun r₂ s₂ hr₂ => ?_
      · unfold Builtin.«set.__init__» noKeywords
        wp_walk
        have gl : (s.heap.push { cls := .type "set", dict := none, data := .set #[] 0 (.fresh 0 0 led) }).get? l = some (listOf acc c) := Heap.get?_push_of_some _ hl
        refine wpAny_of_eq (show isSubtype (listOf acc c).cls (.type "set") = pure false by show isSubtype (.type "list") _ = _; rw [isSubtype_type]; kernel_rfl) ?_
        show wpAny _ _ (isInstance (.ref l) (.type "frozenset")) _ _ _
        refine wpAny_isInstance (T := "list") (b := false) ⟨_, gl, rfl⟩ (by rw [isSubtype_type]; kernel_rfl) ?_
        rw [if_neg Bool.false_ne_true]
        refine wpAny_bind (wpAny_typeOf (T := "list") ⟨_, gl, rfl⟩ ?_)
        rw [if_neg (by decide)]
        refine wpAny_bind (wpAny_pyIter_list (items := acc) ⟨_, gl, rfl, c, rfl⟩ ?_)
        have sz : (s.heap.push { cls := .type "set", dict := none, data := .set #[] 0 (.fresh 0 0 led) }).objs.size = s.heap.objs.size + 1 := Array.size_push _
        refine wpAny_bind ?_
        refine wpAny_runValue ?_
        refine set_loop (A := A.in1.in1) (h₀ := s.heap) (c := c) (acc := acc) hh hl (Heap.get?_none_of_le (by rw [sz]; omega)) (Heap.get?_none_of_le (Nat.le_refl _)) (by rw [sz]; exact Nat.ne_of_lt (Nat.lt_succ_self _)) ha hn s (fun h' tk n hk hS => ?_) ys.length 0 0 _ _ (Nat.zero_add _)
          (fun b o e => Heap.get?_push_of_some _ (Heap.get?_push_of_some _ e)) ⟨{ cls := .type "list_iterator", data := .fields #[.ref l, .int 0 0] }, Heap.get?_push_size _ rfl, rfl, rfl⟩ ⟨_, #[], 0, _, Heap.get?_push_of_some _ g0, ⟨rfl, rfl, rfl⟩, rfl, (fun e he => nomatch he), (fun k => ?_), by decide, ?_, rfl⟩ (Nat.le_refl _)
        · exact wpAny_pure (wpAny_pure ⟨rfl, hQ _ h' tk n (Nat.le_refl _) hk (Heap.get?_none_of_le (Nat.le_refl _)) hS⟩)
        · simp
        · cases led <;> rfl
      · cases r₂ with
        | error e => exact hr₂
        | ok fl₂ =>
          cases fl₂ with
          | ret r =>
            obtain ⟨rfl, hq⟩ := hr₂
            repeat (any_goals (first | assumption | wp_step))
          | _ => exact hr₂.elim
    | _ => exact hr.elim
end
end Mine

namespace Mine
/-! (set).__contains__ -/
theorem slot_md_get : Slot "method_descriptor" "__get__" "method_descriptor.__get__" :=
  .of (owner := "method_descriptor") (n := "__get__") (by rw [typeLookup_type, builtinLookup_eq_fast]; kernel_rfl) (by decide +kernel) (by decide +kernel) (by decide +kernel)
    (by first | exact .inl (by decide +kernel) | exact .inr (by decide +kernel)) (by rw [isSubtype_type]; kernel_rfl)
theorem md_no_set : typeLookup (.type "method_descriptor") "__set__" = pure none := by rw [typeLookup_type, builtinLookup_eq_fast]; kernel_rfl
theorem md_no_delete : typeLookup (.type "method_descriptor") "__delete__" = pure none := by rw [typeLookup_type, builtinLookup_eq_fast]; kernel_rfl
theorem entry_md_get : entryFor table "method_descriptor.__get__" = some Builtin.«method_descriptor.__get__» := entryFor_of_tree (by kernel_rfl)
theorem args_md_get (a b c : Value) : argsOk "method_descriptor.__get__" ⟨[a, b, c], []⟩ := by unfold argsOk; kernel_rfl
theorem owner_con : (".".intercalate ("set.__contains__".cutAt '.').dropLast) = "set" := by
  rw [show "set.__contains__".cutAt '.' = ["set", "__contains__"] by first | rfl | decide +kernel]; decide +kernel
theorem sub_con : isSubtype (.type "set") (.type (".".intercalate ("set.__contains__".cutAt '.').dropLast)) = pure true := by
  rw [owner_con, isSubtype_type]; kernel_rfl
abbrev conObj (D : Addr) : Obj := { cls := .type "builtin_function_or_method", data := .fields #[.builtin "set.__contains__", .ref D] }
section
variable {prog : Program} {w : World} {A : Around} {E : Value → Shared → Prop} {s : Shared} {D : Addr} {es : Array (Int × Value)} {ep : Nat} {ts : SetTable}
abbrev setObj (es : Array (Int × Value)) (ep : Nat) (ts : SetTable) : Obj := { cls := .type "set", dict := none, data := .set es ep ts, slots := #[] }
theorem con_get {R : Result → Shared → Prop} (hx : s.heap.get? D = some (setObj es ep ts)) (hq : R (.ok (.ret (.ref s.heap.objs.size))) { s with heap := s.heap.push (conObj D) }) :
    codeAny (model prog w) A (.call (.builtin "method_descriptor.__get__") ⟨[.builtin "set.__contains__", .ref D, .type "set"], []⟩) R s := by
  have hT : s.TypeIs (.ref D) "set" := ⟨_, hx, rfl⟩
  have hT5 : s.TypeIs (.builtin "set.__contains__") "method_descriptor" := PySem.F.type_set_contains
  have f9 := sub_con
  refine codeAny_call_builtin slot_md_get.plain entry_md_get (slot_md_get.check _ _ _ _ _ _ _ _ hT5 (args_md_get _ _ _) ?_)
  repeat (any_goals (first | assumption | wp_step))
theorem con_entry {tk : Tok} {Q : Fin → Shared → Prop} (hx : s.heap.get? D = some (setObj es ep ts)) (hq : Q (.done (.ret (.ref s.heap.objs.size))) { s with heap := s.heap.push (conObj D) }) :
    wpAny (model prog w) A (Builtin.«object.__getattribute__» ⟨[.ref D, .str "__contains__" tk], []⟩) Q E s := by
  have hT : s.TypeIs (.ref D) "set" := ⟨_, hx, rfl⟩
  have hT5 : s.TypeIs (.builtin "set.__contains__") "method_descriptor" := PySem.F.type_set_contains
  have f4 := PySem.F.slot_set_contains.lookup
  have f5 := PySem.F.type_set_contains
  have f6 := slot_md_get.lookup
  have f7 := md_no_set
  have f8 := md_no_delete
  repeat (any_goals (first | assumption | wp_step))
  refine con_get hx ?_
  repeat (any_goals (first | assumption | wp_step))
theorem con_call {tk : Tok} {R : Result → Shared → Prop} (hx : s.heap.get? D = some (setObj es ep ts)) (hq : R (.ok (.ret (.ref s.heap.objs.size))) { s with heap := s.heap.push (conObj D) }) :
    codeAny (model prog w) A (.call (.builtin "set.__getattribute__") ⟨[.ref D, .str "__contains__" tk], []⟩) R s :=
  codeAny_call_builtin PySem.F.slot_set_getattribute.plain PySem.F.entry_set_ga (PySem.F.slot_set_getattribute.check _ _ _ _ _ _ _ _ (show s.TypeIs (.ref D) "set" from ⟨_, hx, rfl⟩) (PySem.F.args_set_getattribute_2 _ _) (con_entry hx hq))
theorem con_by {tk : Tok} {Q : Value → Shared → Prop} (hx : s.heap.get? D = some (setObj es ep ts)) (hq : Q (.ref s.heap.objs.size) { s with heap := s.heap.push (conObj D) }) : wpAny (model prog w) A (getAttrBy (.ref D) (.str "__contains__" tk) true true) Q E s := by
  have hT : s.TypeIs (.ref D) "set" := ⟨_, hx, rfl⟩
  have f2 := PySem.F.slot_set_getattribute.lookup
  have f3 := PySem.F.slot_set_getattribute.bind (.ref D)
  repeat (any_goals (first | assumption | wp_step))
  refine con_call hx ?_
  repeat (any_goals (first | assumption | wp_step))
theorem con_attr {Q : Value → Shared → Prop} (hx : s.heap.get? D = some (setObj es ep ts)) (hq : Q (.ref s.heap.objs.size) { s with heap := s.heap.push (conObj D), toks := s.toks + 1 }) : wpAny (model prog w) A (getAttr (.ref D) "__contains__" true) Q E s := by
  unfold getAttr
  exact wpAny_bind (wpAny_mkText (con_by (s := { s with toks := s.toks + 1 }) hx hq))
theorem sub_set_module : isSubtype (.type "set") (.type "module") = pure false := by rw [isSubtype_type]; kernel_rfl
theorem varargs_con : Manifest.varargsMethods.contains "set.__contains__" = false := by decide +kernel
theorem con_ask {M : Addr} {S : Str → Bool} {n : Nat} {y : Str} {t : Tok} {Q : Value → Shared → Prop} (hM : s.heap.get? M = some (conObj D)) (hS : s.heap.SetOf (PySem.strKind prog w) D S n)
    (hQ : Q (.bool (S y)) { s with toks := s.toks + 1 }) : wpAny (model prog w) A (call (.ref M) [.str y t]) Q E s := by
  have hT : s.TypeIs (.ref D) "set" := hS.typeIs
  have hS' := hS
  obtain ⟨⟨oc, od, oda, osl⟩, es, ep, ts, ho, ⟨rfl, rfl, rfl⟩, rfl, _⟩ := hS'
  refine wpAny_call (codeAny_of_tree ?_)
  show wpAny _ _ (callAny (.ref M) _) _ _ _
  unfold callAny
  have f1 := sub_set_module
  have f2 := varargs_con
  repeat (any_goals (first | assumption | wp_step))
  refine ⟨Code.quiet_builtin _ (by decide +kernel), codeAny_builtin entry_set_contains ?_⟩
  show wpAny _ _ (Builtin.«frozenset.__contains__» ⟨[.ref D, .str y t], []⟩) _ _ _
  unfold Builtin.«frozenset.__contains__» Builtin.Frozenset.oneOther
  simp only [List.isEmpty_nil, bind_assoc]
  unfold Builtin.Frozenset.addrOf Builtin.Frozenset.withSetAsKey setContains
  refine wpAny_bind (wpAny_pure ?_)
  dsimp only
  refine wpAny_bind (wpAny_pure ?_)
  dsimp only
  refine wpAny_bind (wpAny_tryCatch ?_)
  refine wpAny_holding ?_
  refine wpAny_bind ((PySem.strKind prog w).pyHash (k := y) (isStr_mk y t) ?_)
  refine wpAny_bind (wpAny_setFind_of (knd := PySem.strKind prog w) (s := { s with toks := s.toks + 1 }) (isStr_mk y t) rfl hS fun r hr => ?_)
  refine wpAny_pure ?_
  show wpAny _ _ (ret (Value.bool r.isSome)) _ _ _
  rw [hr]
  exact wpAny_pure hQ
end
end Mine

namespace Mine
/-- the set object of the strings ys -/
noncomputable def SetFacts (prog : Program) (w : World) (ys : List Str) (es : Array (Int × Value)) (ts : SetTable) : Prop :=
  ElemsOf (PySem.strKind prog w) es.toList ∧ (∀ k, decide (k ∈ ys) = true ↔ ∃ e ∈ es.toList, (PySem.strKind prog w).is k e.2 = true) ∧ es.size < scanBound ∧ ts.fits es.size = true
theorem SetFacts.of {prog : Program} {w : World} {ys : List Str} {es : Array (Int × Value)} {ts : SetTable} {ep : Nat} {h : Heap} {D : Addr} (f : SetFacts prog w ys es ts) (hD : h.get? D = some (setObj es ep ts)) : h.SetOf (PySem.strKind prog w) D (fun k => decide (k ∈ ys)) es.size :=
  ⟨_, es, ep, ts, hD, ⟨rfl, rfl, rfl⟩, rfl, f.1, f.2.1, f.2.2.1, f.2.2.2, rfl⟩
section
variable {prog : Program} {w : World} {A : Around} {E : Value → Shared → Prop} {s : Shared} {h₀ : Heap} {L l D : Addr} {m : Str → Option Value} {news : List (Addr × Obj)} {acc : Array Value} {c : Nat} {ys : List Str} {es : Array (Int × Value)} {ep : Nat} {ts : SetTable}
theorem set_newN {Q : Value → Shared → Prop} (hh : A.handled = none) (F : Fr h₀ L s.heap m) (N : News h₀ L s.heap news) (hl : h₀.get? l = some (listOf acc c)) (ha : Strs acc.toList ys) (hn : ys.length ≤ 4000)
    (k : ∀ D h' tk es ep ts, Fr h₀ L h' m → News h₀ L h' ((D, setObj es ep ts) :: news) → (∀ p ∈ news, p.1 ≠ D) → L < D → SetFacts prog w ys es ts → Q (.ref D) { s with heap := h', toks := tk }) :
    wpAny (model prog w) A (call (.type "set") [.ref l]) Q E s := by
  refine call_set_1 hh (F.keep _ _ hl) ha hn fun D h' tk n hsz hk hD hS => ?_
  obtain ⟨⟨oc, od, oda, osl⟩, es, ep, ts, ho, ⟨rfl, rfl, rfl⟩, rfl, a1, a2, a3, a4, _⟩ := hS
  obtain ⟨oL, _, _, hL, _⟩ := F.ns
  have hDL : D ≠ L := fun q => by rw [q, hL] at hD; cases hD
  have hD0 : h₀.get? D = none := by
    cases e : h₀.get? D with
    | none => rfl
    | some o => rw [F.keep _ _ e] at hD; cases hD
  refine k D h' tk es ep ts ⟨F.ns.at' fun o e => hk _ _ e, fun b o e => hk _ _ (F.keep _ _ e), F.above⟩ (fun p hp => ?_) (fun p hp q => ?_) (Nat.lt_of_lt_of_le F.ns.lt hsz) ⟨a1, a2, a3, a4⟩
  · rcases List.mem_cons.mp hp with rfl | hp
    · exact ⟨ho, hDL, hD0⟩
    · have z := N p hp
      exact ⟨hk _ _ z.1, z.2⟩
  · have z := (N p hp).1
    rw [q, hD] at z; cases z
theorem con_newN {Q : Value → Shared → Prop} (F : Fr h₀ L s.heap m) (N : News h₀ L s.heap news) (hm : (D, setObj es ep ts) ∈ news)
    (k : ∀ M h' tk, Fr h₀ L h' m → News h₀ L h' ((M, conObj D) :: news) → (∀ p ∈ news, p.1 < M) → Q (.ref M) { s with heap := h', toks := tk }) : wpAny (model prog w) A (getAttr (.ref D) "__contains__" true) Q E s := by
  refine con_attr (N _ hm).1 (k _ _ _ (F.push _) (News.push F N _) fun p hp => Heap.lt_size (N p hp).1)
abbrev litObj (l : Addr) (i : Nat) : Obj := { cls := .type "list_iterator", data := .fields #[.ref l, .int i 0] }
theorem iter_newN {Q : Value → Shared → Prop} (F : Fr h₀ L s.heap m) (N : News h₀ L s.heap news) (hl : s.heap.get? l = some (listOf acc c))
    (k : ∀ I h', Fr h₀ L h' m → News h₀ L h' ((I, litObj l 0) :: news) → (∀ p ∈ news, p.1 < I) → Q (.ref I) { s with heap := h' }) : wpAny (model prog w) A (call (.builtin "iter") [.ref l]) Q E s := by
  refine call_function_entry (by decide +kernel) (by decide +kernel) kdk_entry_iter (kdk_args_iter _) ?_
  unfold Builtin.«iter»
  refine wpAny_bind (m := someArgs "iter" 1 2 _) (wpAny_of_eq (a := [Value.ref l]) (by first | rfl | kernel_rfl!) ?_)
  show wpAny _ _ (pyIter (.ref l) >>= _) _ _ _
  exact wpAny_bind (wpAny_pyIter_list (items := acc) ⟨_, hl, rfl, c, rfl⟩ (wpAny_pure ⟨_, rfl, k _ _ (F.push _) (News.push F N (litObj l 0)) fun p hp => Heap.lt_size (N p hp).1⟩))
end
local macro_rules | `(tactic| walk_at "call type:set") => `(tactic| ((with_reducible show wpAny _ _ (call (Value.type "set") [Value.ref _]) _ _ _); k_here; k_dflt (refine' set_newN ?hh ?F ?N ?l ?a ?n ?_; (case hh => exact rfl); (case F => k_asm); (case N => k_asm); (case l => assumption); (case a => assumption); (case n => assumption); intro D' h' tk' es' ep' ts' F' N' ne' lD' sf')))
local macro_rules | `(tactic| k_room) => `(tactic| ((try simp only [depth_mark, depth_under_make, depth_under_kw, depth_in1, depth_deeper, depth_caller]); (try dsimp only [ktrTop]); omega))
local macro_rules | `(tactic| k_units) => `(tactic| ((try simp only [units_in1, units_deeper, Around.mark_units, units_caller]); (try dsimp only [ktrTop]); omega))
section
variable {w : World} {s : Shared} {Q E : Value → Shared → Prop} {dp un : Nat} {gd : Option (List Code)} {cn : Str} {cs : Scope} {L a : Addr} {ccd : Value} {cl : List (Str × Addr)} {outer : List Env} {A₀ : Around} {base h₀ : Heap} {m : Str → Option Value} {news : List (Addr × Obj)} {mean : ExcName → Option Value} {mg mb : Str → Option Value}
abbrev filObj (d M I : Addr) : Obj := { cls := .ref 108, dict := some d, slots := #[some (.ref M), some (.ref I)] }
theorem difference_call {l₁ l₂ : Addr} {acc₁ acc₂ : Array Value} {c₁ c₂ : Nat} {xs ys : List Str}
    (B : Below A₀ base outer h₀) (F : Fr h₀ L s.heap m) (X : (hd.heap_39 w.params).In h₀) (N : News h₀ L s.heap news) (T : TP mean mg mb h₀) (hk : cs.kind = .function) (hdp : dp ≤ 400) (hu : un ≤ 3000)
    (g₁ : s.heap.get? l₁ = some (listOf acc₁ c₁)) (a₁ : Strs acc₁.toList xs) (g₂ : s.heap.get? l₂ = some (listOf acc₂ c₂)) (a₂ : Strs acc₂.toList ys) (hn : ys.length ≤ 4000)
    (k : ∀ D M d x I h' tk es ep ts, s.heap.objs.size ≤ D → (∀ b o, s.heap.get? b = some o → h'.get? b = some o) → D < M → M < d → d < x → x < I → s.heap.get? D = none → s.heap.get? M = none → s.heap.get? d = none → s.heap.get? x = none → s.heap.get? I = none →
      h'.get? D = some (setObj es ep ts) → h'.get? M = some (conObj D) → h'.get? d = some (dictOf [] 0) → h'.get? x = some (filObj d M I) → h'.get? I = some (litObj l₁ 0) → SetFacts PP w ys es ts → Q (.ref x) { s with heap := h', toks := tk }) :
    wpAny (model PP w) (ktrTop dp un gd cn cs L a ccd cl outer) (call (.ref 154) [.ref l₁, .ref l₂]) Q E s := by
  refine wpAny_call ?_
  have hr : dp + 100 < recursionLimit := by show dp + 100 < 1000; omega
  have hc : un + 1000 < cLine := by show un + 1000 < 9900; omega
  (refine' enterB (binds := [(Str.ofString "minuend", .ref l₁), (Str.ofString "subtrahend", .ref l₂)]) B F X T rfl rfl hk ?k6 ?k7 ?k8 ?k9 ?kB ?_ ?c2 ?c3 ?c4 ?c5; (case k6 => k_is); (case k7 => k_is); (case k8 => k_room); (case k9 => exact BindsTo.of_eq rfl); (case kB => exact locs rfl); (case c2 => exact rfl); (case c3 => exact rfl); (case c4 => exact rfl); (case c5 => decide); intro L' h₁ F' N' B' X' T')
  k_steps
  k_dflt (refine' con_newN ?F ?N ?m ?_; (case F => k_asm); (case N => k_asm); (case m => k_mem); intro M' h' tk' F' N' l1; k_lt l1)
  k_steps
  k_dflt (refine' iter_newN ?F ?N ?l ?_; (case F => k_asm); (case N => k_asm); (case l => exact Fr.keep (by assumption) _ _ (Fr.keep (by assumption) _ _ g₁)); intro I' h' F' N' l1; k_lt l1)
  k_steps
  rename News s.heap _ _ _ => kN
  rename Fr s.heap _ _ _ => kF
  have P1 := kN _ (.head _)
  have P2 := kN _ (.tail _ (.head _))
  have P3 := kN _ (.tail _ (.tail _ (.head _)))
  have P4 := kN _ (.tail _ (.tail _ (.tail _ (.head _))))
  have P5 := kN _ (.tail _ (.tail _ (.tail _ (.tail _ (.head _)))))
  refine k _ _ _ _ _ _ _ _ _ _ (Nat.le_trans kF.above (Nat.le_of_lt (by assumption))) kF.keep ?_ ?_ ?_ ?_ P5.2.2 P4.2.2 P3.2.2 P2.2.2 P1.2.2 P5.1 P4.1 P3.1 P2.1 P1.1 (by assumption)
  all_goals (first | assumption | exact And.left (by assumption) | omega)
end
end Mine

namespace Mine
section
variable {prog : Program} {w : World} {A : Around} {E : Value → Shared → Prop} {s : Shared} {h₀ : Heap} {L l I : Addr} {m : Str → Option Value} {news : List (Addr × Obj)} {acc : Array Value} {c i : Nat} {g : Obj → List (Addr × Obj)}
/-- next(the iterator of a list) -/
theorem lit_nextN {Q : Value → Shared → Prop} (hh : A.handled = none) (F : Fr h₀ L s.heap m) (N : News h₀ L s.heap news) (U : UpdF I (litObj l i) news g) (hl : (l, listOf acc c) ∈ news)
    (hY : ∀ v h', acc[i]? = some v → Fr h₀ L h' m → News h₀ L h' (g (litObj l (i + 1))) → Q v { s with heap := h' })
    (hE : acc[i]? = none → ∀ e h₁ h' o', Fr h₀ L h₁ m → News h₀ L h₁ (g o') → Heap.NewExc h₁ h' e "StopIteration" → E (.ref e) { s with heap := h' }) :
    wpAny (model prog w) A (call (.builtin "next") [.ref I]) Q E s := by
  obtain ⟨pre, post, hsp, hg, ha, hb⟩ := U.split
  have hm := N (I, litObj l i) (by rw [hsp]; exact List.mem_append_right _ (.head _))
  have hit : s.heap.IsListIter I l i := ⟨_, hm.1, rfl, rfl⟩
  have hll := (N _ hl).1
  have N0 : News h₀ L s.heap (pre ++ (I, litObj l i) :: post) := hsp ▸ N
  refine call_function_entry (by decide +kernel) (by decide +kernel) kdk_entry_next (kdk_args_next _) ?_
  unfold Builtin.«next»
  refine wpAny_bind (m := someArgs "next" 1 2 _) (wpAny_of_eq (a := [Value.ref I]) (by first | rfl | kernel_rfl!) ?_)
  dsimp only
  refine wpAny_bind (wpAny_specialOf (name := Str.ofString "__next__") hit.typeIs slot_listiter_next.lookup ?_)
  refine wpAny_ite_split (fun hab => absurd hab (by decide)) (fun _ => ?_)
  refine wpAny_bind (wpAny_callSpecial?_slot (name := Str.ofString "__next__") hit.typeIs slot_listiter_next
    (wpAny_call_entry slot_listiter_next hit.typeIs entry_listiter_next ?_ (args_listiter_next _)))
  show wpAny _ _ (field (.ref I) 0 >>= _) _ _ s
  refine wpAny_bind (wpAny_field hm.1 rfl (x := .ref l) rfl ?_)
  show wpAny _ _ (if (Value.ref l == Value.none) = true then _ else _) _ _ s
  rw [if_neg (show ¬ ((Value.ref l == Value.none) = true) from Bool.false_ne_true)]
  show wpAny _ _ (field (.ref I) 1 >>= _) _ _ s
  refine wpAny_bind (wpAny_field hm.1 rfl (x := .int i 0) rfl ?_)
  show wpAny _ _ (seqItems? (.ref l) >>= _) _ _ s
  refine wpAny_bind (wpAny_seqItems hll rfl ?_)
  simp only [Int.toNat_natCast]
  cases hx : acc[i]? with
  | some v =>
    refine wpAny_bind (wpAny_setField hm.1 rfl (by simp) (wpAny_pure ⟨_, rfl, wpAny_pure ⟨_, rfl, hY v _ hx (F.change (Heap.SameBut.update ..) hm.2.1 hm.2.2) ?_⟩⟩))
    rw [hg]
    exact N0.setIn ha hb (Heap.SameBut.update ..) (Heap.get?_update_self _ hm.1 rfl)
  | none =>
    refine wpAny_bind (wpAny_rule (wpAny_bind (wpAny_setField hm.1 rfl (by simp) ?_)))
    show wpAny _ _ (newExc (.type "StopIteration") [] >>= _) _ _ _
    refine wpAny_bind ?_
    simp only [newExc, newTuple]
    refine wpAny_bind (wpAny_newObj_type ?_ (by size_fits))
    refine wpAny_bind (m := firstArgMember _ _) (wpAny_of_eq (a := Value.none) (by first | rfl | (simp only [firstArgMember]; rfl)) ?_)
    refine wpAny_newObj_type ?_ (by size_fits)
    simp only [raiseNew]
    refine wpAny_bind (wpAny_handled ?_)
    first | rw [show A.in1.in1.handled = none from hh] | rw [show A.in1.handled = none from hh] | rw [hh]
    refine wpAny_bind (wpAny_pure (wpAny_throw ?_))
    refine hE hx _ _ _ _ (F.change (Heap.SameBut.update s.heap I _) hm.2.1 hm.2.2) (by rw [hg]; exact N0.setIn ha hb (Heap.SameBut.update ..) (Heap.get?_update_self _ hm.1 rfl)) ⟨fun b o e => Heap.get?_push_of_some _ (Heap.get?_push_of_some _ e), ?_, ?_⟩
    · exact Heap.get?_none_of_le (by simp [Heap.push])
    · exact ⟨_, _, Heap.get?_push_size _ rfl, rfl, rfl⟩
theorem lit_next_item {Q : Value → Shared → Prop} {y : Str} {t : Tok} (hh : A.handled = none) (F : Fr h₀ L s.heap m) (N : News h₀ L s.heap news) (U : UpdF I (litObj l i) news g) (hl : (l, listOf acc c) ∈ news) (hx : acc[i]? = some (.str y t))
    (hY : ∀ h', Fr h₀ L h' m → News h₀ L h' (g (litObj l (i + 1))) → Q (.str y t) { s with heap := h' }) : wpAny (model prog w) A (call (.builtin "next") [.ref I]) Q E s :=
  lit_nextN hh F N U hl (fun v h' e F' N' => by rw [hx] at e; cases e; exact hY h' F' N') (fun e => by rw [hx] at e; cases e)
theorem lit_next_end {Q : Value → Shared → Prop} (hh : A.handled = none) (F : Fr h₀ L s.heap m) (N : News h₀ L s.heap news) (U : UpdF I (litObj l i) news g) (hl : (l, listOf acc c) ∈ news) (hx : acc[i]? = none)
    (hE : ∀ e h₁ h' o', Fr h₀ L h₁ m → News h₀ L h₁ (g o') → Heap.NewExc h₁ h' e "StopIteration" → E (.ref e) { s with heap := h' }) : wpAny (model prog w) A (call (.builtin "next") [.ref I]) Q E s :=
  lit_nextN hh F N U hl (fun v h' e => by rw [hx] at e; cases e) (fun _ => hE)
variable {M D ep : Nat} {es : Array (Int × Value)} {ts : SetTable} {ys : List Str}
theorem con_in {Q : Value → Shared → Prop} {y : Str} {t : Tok} (N : News h₀ L s.heap news) (hM : (M, conObj D) ∈ news) (hD : (D, setObj es ep ts) ∈ news) (sf : SetFacts prog w ys es ts) (hy : y ∈ ys) (h : Q (.bool true) { s with toks := s.toks + 1 }) :
    wpAny (model prog w) A (call (.ref M) [.str y t]) Q E s :=
  con_ask (N _ hM).1 (sf.of (N _ hD).1) (by rw [show decide (y ∈ ys) = true from decide_eq_true hy]; exact h)
theorem con_out {Q : Value → Shared → Prop} {y : Str} {t : Tok} (N : News h₀ L s.heap news) (hM : (M, conObj D) ∈ news) (hD : (D, setObj es ep ts) ∈ news) (sf : SetFacts prog w ys es ts) (hy : y ∉ ys) (h : Q (.bool false) { s with toks := s.toks + 1 }) :
    wpAny (model prog w) A (call (.ref M) [.str y t]) Q E s :=
  con_ask (N _ hM).1 (sf.of (N _ hD).1) (by rw [show decide (y ∈ ys) = false from decide_eq_false hy]; exact h)
noncomputable def ConAt (M D : Addr) (h : Heap) : Prop := h.get? M = some (conObj D)
theorem conAt_of {h : Heap} (N : News h₀ L h news) (hm : (M, conObj D) ∈ news) : ConAt M D h := N.get hm
theorem callWith_con {pos : Pos} {env : Env} {e : Expr} {Q : Value → Shared → Prop} (_N : News h₀ L s.heap news) (_hm : (M, conObj D) ∈ news)
    (h : wpAny (model prog w) A (spliced (backTo pos (starEach [e] env))) (fun vs s₁ => ConAt M D s₁.heap ∧ wpAny (model prog w) A (call (.ref M) vs) Q E s₁) E s) (he : starEach [e] env = (false, eval e env) :: starEach [] env := by rfl) :
    wpAny (model prog w) A (callWith pos (.ref M) [] (backTo pos (starEach [e] env)) []) Q E s := by
  rw [he] at h ⊢
  have h2 : wpAny (model prog w) A (evalArgs (.ref M) true (backTo pos ((false, eval e env) :: starEach [] env)) []) (fun a s₁ => ConAt M D s₁.heap ∧ wpAny (model prog w) A (call (.ref M) ([] ++ a.pos) a.kw) Q E s₁) E s := evalArgs_plain h
  unfold callWith
  refine wpAny_bind (wpAny_holding (wpAny_mono h2 (fun a s₁ z => wpAny_bind (wpAny_standAt ?_)) fun _ _ z => z))
  obtain ⟨ho, hcall⟩ := z
  refine wpAny_bind (m := keeperOf (.ref M)) ?_
  unfold keeperOf
  refine wpAny_bind (wpAny_load ho (wpAny_pure ?_))
  exact wpAny_bind (wpAny_mono hcall (fun r s₂ hr => wpAny_bind (wpAny_holding (wpAny_point (wpAny_pure hr)))) fun _ _ x => x)
theorem fr_congr {h : Heap} {m m' : Str → Option Value} (F : Fr h₀ L h m) (e : ∀ y, m y = m' y) : Fr h₀ L h m' := (funext e : m = m') ▸ F
end
theorem neC {a L : Addr} {o : Obj} {r : List (Addr × Obj)} (h : a ≠ L) (hr : ∀ p ∈ r, p.1 ≠ L) : ∀ p ∈ (a, o) :: r, p.1 ≠ L := fun p hp => by
  rcases List.mem_cons.mp hp with rfl | hp
  · exact h
  · exact hr p hp
theorem drop_in {xs ys : List Str} {i : Nat} {y : Str} (h : i < xs.length) (hy : xs[i] = y) (hm : y ∈ ys) : (xs.drop i).filter (fun z => decide (z ∉ ys)) = (xs.drop (i + 1)).filter (fun z => decide (z ∉ ys)) := by
  rw [List.drop_eq_getElem_cons h, hy, List.filter_cons, if_neg (by simp [hm])]
theorem drop_out {xs ys : List Str} {i : Nat} {y : Str} (h : i < xs.length) (hy : xs[i] = y) (hm : y ∉ ys) : (xs.drop i).filter (fun z => decide (z ∉ ys)) = y :: (xs.drop (i + 1)).filter (fun z => decide (z ∉ ys)) := by
  rw [List.drop_eq_getElem_cons h, hy, List.filter_cons, if_pos (by simp [hm])]
noncomputable def WhlStop (P : Prop) : Prop := P
theorem whl_stop {P : Prop} (h : WhlStop P) : P := h
local macro_rules | `(tactic| k_all) => `(tactic| with_reducible assumption)
local macro_rules | `(tactic| k_room) => `(tactic| ((try simp only [depth_mark, depth_under_make, depth_under_kw, depth_in1, depth_deeper, depth_caller]); (try dsimp only [ktrTop]); omega))
local macro_rules | `(tactic| k_units) => `(tactic| ((try simp only [units_in1, units_deeper, Around.mark_units, units_caller]); (try dsimp only [ktrTop]); omega))
local macro_rules | `(tactic| walk_at "call builtin:next") => `(tactic| (k_here; (with_reducible show wpAny _ _ (call (Value.builtin "next") [Value.ref _]) _ _ _); k_dflt (first | (refine' lit_next_item rfl ?F ?N ?U ?l ?x ?_; (case F => k_asm); (case N => k_asm); (case U => k_updF); (case l => k_mem); (case x => assumption); intro h' F' N'; (try dsimp only at N')) | (refine' lit_next_end rfl ?F ?N ?U ?l ?x ?_; (case F => k_asm); (case N => k_asm); (case U => k_updF); (case l => k_mem); (case x => assumption)))))
local macro_rules | `(tactic| walk_at "call ref") => `(tactic| ((with_reducible show wpAny _ _ (call (Value.ref _) [Value.str _ _]) _ _ _); k_here; k_dflt (first | (refine' con_in ?N ?a ?b ?sf ?y ?_; (case N => k_asm); (case a => k_mem); (case b => k_mem); (case sf => assumption); (case y => assumption)) | (refine' con_out ?N ?a ?b ?sf ?y ?_; (case N => k_asm); (case a => k_mem); (case b => k_mem); (case sf => assumption); (case y => assumption)))))
local macro_rules | `(tactic| walk_at "callWith ref") => `(tactic| (k_here; k_dflt (refine' callWith_con ?N ?m ?_; (case N => k_asm); (case m => k_mem))))
local macro_rules | `(tactic| walk_at "And") => `(tactic| ((with_reducible show ConAt _ _ _ ∧ _); k_dflt (refine ⟨conAt_of (by k_asm) (by k_mem), ?_⟩); (try dsimp only)))
local macro_rules | `(tactic| walk_at "WhlRest") => `(tactic| refine whl_stop ?_)
local macro_rules | `(tactic| walk_at "exec While") => `(tactic| refine whl_stop ?_)
local macro_rules | `(tactic| walk_at "last exec While") => `(tactic| refine whl_stop ?_)
local macro_rules | `(tactic| walk_at "exec While Constant") => `(tactic| refine whl_stop ?_)
section
variable {w : World} {s : Shared} {dp un : Nat} {gd : Option (List Code)} {cn : Str} {cs : Scope} {L la : Addr} {ccd : Value} {cl : List (Str × Addr)} {h₀ : Heap} {m : Str → Option Value} {rest : List (Addr × Obj)} {mean : ExcName → Option Value} {mg mb : Str → Option Value}
theorem fil_next {Q : Option Value → Shared → Prop} {E : Value → Shared → Prop} {x d M D I l : Nat} {acc : Array Value} {c i ep : Nat} {es : Array (Int × Value)} {ts : SetTable} {xs ys : List Str} {oF : Obj}
    (F : Fr h₀ L s.heap m) (X : (hd.heap_39 w.params).In h₀) (T : TP mean mg mb h₀) (hk : cs.kind = .function) (hdp : dp ≤ 400) (hu : un ≤ 3000) (hLo : s.heap.get? L = some oF)
    (N : News h₀ L s.heap ((x, filObj d M I) :: (d, dictOf [] 0) :: (M, conObj D) :: (D, setObj es ep ts) :: (I, litObj l i) :: (l, listOf acc c) :: rest)) (hI : ∀ p ∈ rest, p.1 ≠ I) (h1 : D < M) (h2 : M < d) (h3 : d < x) (h4 : x < I) (h5 : l < D)
    (sf : SetFacts PP w ys es ts) (ha : Strs acc.toList xs) (hi : i ≤ xs.length)
    (hY : ∀ y t h' tk j, (xs.drop i).filter (fun z => decide (z ∉ ys)) = y :: (xs.drop j).filter (fun z => decide (z ∉ ys)) → j ≤ xs.length → Fr h₀ L h' m → (∃ sl, h'.get? L = some { oF with slots := sl }) →
      News h₀ L h' ((x, filObj d M I) :: (d, dictOf [] 0) :: (M, conObj D) :: (D, setObj es ep ts) :: (I, litObj l j) :: (l, listOf acc c) :: rest) → Q (some (.str y t)) { s with heap := h', toks := tk })
    (hE : (xs.drop i).filter (fun z => decide (z ∉ ys)) = [] → ∀ h' tk oI, Fr h₀ L h' m → (∃ sl, h'.get? L = some { oF with slots := sl }) →
      News h₀ L h' ((x, filObj d M I) :: (d, dictOf [] 0) :: (M, conObj D) :: (D, setObj es ep ts) :: (I, oI) :: (l, listOf acc c) :: rest) → Q none { s with heap := h', toks := tk })
    : wpAny (model PP w) (ktrTop dp un gd cn cs L la ccd cl []) (pyNext (.ref x)) Q E s := by
  have hr : dp + 100 < recursionLimit := by show dp + 100 < 1000; omega
  have hc : un + 1000 < cLine := by show un + 1000 < 9900; omega
  k_dflt (refine' owit_next ?F ?X ?I ?hs ?hf ?_; (case F => k_asm); (case X => k_asm); (case I => k_inst); (case hs => k_is); (case hf => k_is))
  refine wpAny_call ?_
  (refine' enterT (binds := [(Str.ofString "self", .ref x)]) (env := envX cn cs L la ccd cl) F X N T rfl hk ?k6 ?k7 ?k8 ?k9 ?kB ?_ ?c2 ?c3 ?c4 ?c5; (case k6 => k_is); (case k7 => k_is); (case k8 => k_room); (case k9 => exact BindsTo.of_eq rfl); (case kB => exact locs rfl); (case c2 => exact rfl); (case c3 => exact rfl); (case c4 => exact rfl); (case c5 => decide); intro oF' L' h₁ hLo' tiC tiF neL hLL F' N'; obtain rfl : oF = oF' := Option.some.inj (hLo.symm.trans hLo'))
  have neX : x ≠ L := neL _ (.head _)
  have neD : d ≠ L := neL _ (.tail _ (.head _))
  have neM : M ≠ L := neL _ (.tail _ (.tail _ (.head _)))
  have neS : D ≠ L := neL _ (.tail _ (.tail _ (.tail _ (.head _))))
  have neI : I ≠ L := neL _ (.tail _ (.tail _ (.tail _ (.tail _ (.head _)))))
  have nel : l ≠ L := neL _ (.tail _ (.tail _ (.tail _ (.tail _ (.tail _ (.head _))))))
  have neR : ∀ p ∈ rest, p.1 ≠ L := fun p hp => neL _ (.tail _ (.tail _ (.tail _ (.tail _ (.tail _ (.tail _ hp))))))
  have hI' : ∀ p ∈ rest ++ [(L, oF)], p.1 ≠ I := fun p hp => by
    rcases List.mem_append.mp hp with q | q
    · exact hI p q
    · rcases List.mem_cons.mp q with rfl | q
      · exact Ne.symm neI
      · exact nomatch q
  have N1 : News h₀ L' h₁ ((x, filObj d M I) :: (d, dictOf [] 0) :: (M, conObj D) :: (D, setObj es ep ts) :: (I, litObj l i) :: (l, listOf acc c) :: (rest ++ [(L, oF)])) := N'
  clear N' F N
  dsimp only
  k_steps
  show wpAny _ _ _ _ _ _
  obtain ⟨r, hir⟩ : ∃ r, i + r = xs.length := ⟨xs.length - i, by omega⟩
  refine whl_start (r + 1) ?_
  rename Fr h₀ L' _ _ => F1
  rename News h₀ L' _ _ => N2

  obtain ⟨vo, hvo⟩ : ∃ vo : Option Value, vo = none := ⟨_, rfl⟩
  replace F1 := fr_congr F1 (m' := fun y => if y = Str.ofString "item" then vo else if y = Str.ofString "func" then some (Value.ref M) else List.lookup y [(Str.ofString "self", Value.ref x)].reverse) (fun y => by
    rcases Decidable.em (y = Str.ofString "item") with q | q
    · rw [if_pos q]; subst q; subst hvo; rfl
    · rw [if_neg q])
  clear hvo neL hi
  generalize s.toks + [(Str.ofString "self", Value.ref x)].length + 1 + 1 = tk
  rename_i hh
  induction r generalizing i hh tk vo with
  | zero =>
    have hx : acc[i]? = none := by
      rw [Array.getElem?_eq_none]
      rw [← Array.length_toList, ha.length]; omega
    refine whl_turn ?hE ?_
    case hE => first | passes_own | with_unfolding_all passes_own
    k_steps
    rename_i e h₁' h' o' Fa Na xa
    have neA : ∀ {o1 o2 o3 o4 o5 o6 : Obj}, ∀ p ∈ (x, o1) :: (d, o2) :: (M, o3) :: (D, o4) :: (I, o5) :: (l, o6) :: rest, p.1 ≠ L := fun {_ _ _ _ _ _} => neC neX (neC neD (neC neM (neC neS (neC neI (neC nel neR)))))
    unfold leaving
    refine wpAny_bind (exl_first (new := (x, _) :: (d, _) :: (M, _) :: (D, _) :: (I, _) :: (l, _) :: rest) rfl tiF xa Fa Na neA (fun h2 tb ob otb sl Fs2 F2 N2 X2 ne ntb nee => ?_))
    have N3 : News h₀ L' h2 ((e, ob) :: (tb, otb) :: (x, _) :: (d, _) :: (M, _) :: (D, _) :: (I, o') :: (l, _) :: (rest ++ [(L, { oF with slots := sl })])) := N2
    refine exl_flight none F2 N3 (.tail ne (.head ntb)) (.head _) X2 (fun h3 otb' F3 N4 X3 => ?_)
    have N5 : News h₀ L' h3 ((e, ob) :: (tb, otb') :: (x, _) :: (d, _) :: (M, _) :: (D, _) :: (I, o') :: (l, _) :: (rest ++ [(L, { oF with slots := sl })])) := N4
    refine exl_stop N5 (.head _) X3 ?_
    obtain ⟨Fo, Lo, No⟩ := outT (new := (x, _) :: (d, _) :: (M, _) :: (D, _) :: (I, _) :: (l, _) :: rest) tiC ⟨sl, rfl⟩ F3 (fun p hp => N5 p (.tail _ (.tail _ hp))) neA
    exact hE (by rw [List.drop_of_length_le (by omega)]; rfl) _ _ _ Fo Lo No
  | succ r ih =>
    have hlt : i < xs.length := by omega
    obtain ⟨t, ht⟩ := ha.get (List.getElem?_eq_getElem hlt)
    rw [Array.getElem?_toList] at ht
    generalize hy : xs[i] = y at ht
    refine whl_turn ?hE ?_
    case hE => first | passes_own | with_unfolding_all passes_own
    rcases Decidable.em (y ∈ ys) with hm | hm
    · k_steps
      show WhlRest _ _ _ _ _ _ _ _ _ _ _
      rename_i h1' h2' F3 N3 tk3
      refine ih (i := i + 1) (fun y' t' h' tk' j e => hY y' t' h' tk' j ((drop_in hlt hy hm).trans e)) (fun e => hE ((drop_in hlt hy hm).trans e)) _ N3 (by omega) (some (.str y t)) (fr_congr F3 fun z => ?_) _
      rcases Decidable.em (z = Str.ofString "item") with q | q
      · rw [if_pos q, if_pos q]
      · rw [if_neg q, if_neg q, if_neg q]
    · k_steps
      rename_i h1' h2' F3 N3 tk3
      obtain ⟨Fo, Lo, No⟩ := outT (new := (x, _) :: (d, _) :: (M, _) :: (D, _) :: (I, _) :: (l, _) :: rest) tiC ⟨oF.slots, rfl⟩ F3 N3 (neC neX (neC neD (neC neM (neC neS (neC neI (neC nel neR))))))
      exact hY y t _ _ (i + 1) (drop_out hlt hy hm) (by omega) Fo Lo No
end
end Mine

namespace Mine
local macro_rules | `(tactic| k_room) => `(tactic| ((try simp only [depth_mark, depth_under_make, depth_under_kw, depth_in1, depth_deeper, depth_caller]); (try dsimp only [ktrTop]); omega))
/-- from s₀ to s nothing but wr changed -/
structure Kh (wr : List Addr) (s₀ s : Shared) : Prop where
  heap : ∀ b o, b ∉ wr → s₀.heap.get? b = some o → s.heap.get? b = some o
  gens : s.gens = s₀.gens
  drawn : s.drawn = s₀.drawn
  os : s.os = s₀.os
theorem Kh.trans {wr : List Addr} {a b c : Shared} (x : Kh wr a b) (y : Kh wr b c) : Kh wr a c :=
  ⟨fun p o hp e => y.heap p o hp (x.heap p o hp e), y.gens.trans x.gens, y.drawn.trans x.drawn, y.os.trans x.os⟩
section
variable {w : World} {dp un : Nat} {gd : Option (List Code)} {cn : Str} {cs : Scope} {L la : Addr} {ccd : Value} {cl : List (Str × Addr)} {h₀ : Heap} {m : Str → Option Value} {mean : ExcName → Option Value} {mg mb : Str → Option Value}
  {x d M D I l S : Nat} {acc : Array Value} {c i ep : Nat} {es : Array (Int × Value)} {ts : SetTable} {xs ys : List Str} {oF : Obj} {s₀ s : Shared}
structure FilCore (s₀ : Shared) (oF : Obj) (L I l : Nat) (xs : List Str) (i : Nat) (s : Shared) : Prop where
  kt : Kh [I, L] s₀ s
  fr : ∃ sl, s.heap.get? L = some { oF with slots := sl }
  it : s.heap.get? I = some (litObj l i)
  le : i ≤ xs.length
noncomputable def FilSt (s₀ : Shared) (oF : Obj) (L I l : Nat) (xs ys : List Str) (j : Nat) (s : Shared) : Prop :=
  ∃ i, FilCore s₀ oF L I l xs i s ∧ (xs.drop i).filter (fun z => decide (z ∉ ys)) = (xs.filter fun z => decide (z ∉ ys)).drop j
noncomputable def FilFin (s₀ : Shared) (oF : Obj) (L I : Nat) (s : Shared) : Prop := Kh [I, L] s₀ s ∧ ∃ sl, s.heap.get? L = some { oF with slots := sl }
structure FilGround (w : World) (h₀ : Heap) (s₀ : Shared) (oF : Obj) (m : Str → Option Value) (L x d M D I l : Nat) (acc : Array Value) (c ep : Nat) (es : Array (Int × Value)) (ts : SetTable) (xs ys : List Str) (mean : ExcName → Option Value) (mg mb : Str → Option Value) : Prop where
  keep : ∀ b o, h₀.get? b = some o → s₀.heap.get? b = some o
  no : ∀ b ∈ [x, d, M, D, I, l, L], h₀.get? b = none
  ox : s₀.heap.get? x = some (filObj d M I)
  od : s₀.heap.get? d = some (dictOf [] 0)
  oM : s₀.heap.get? M = some (conObj D)
  oD : s₀.heap.get? D = some (setObj es ep ts)
  ol : s₀.heap.get? l = some (listOf acc c)
  ne : L < l ∧ l < D ∧ D < M ∧ M < d ∧ d < x ∧ x < I
  tc : TI.Caller h₀ L m oF
  X : (hd.heap_39 w.params).In h₀
  T : TP mean mg mb h₀
  sf : SetFacts PP w ys es ts
  ha : Strs acc.toList xs
theorem FilCore.fr_ (G : FilGround w h₀ s₀ oF m L x d M D I l acc c ep es ts xs ys mean mg mb) (C : FilCore s₀ oF L I l xs i s) : Fr h₀ L s.heap m := by
  obtain ⟨sl, e⟩ := C.fr
  refine ⟨G.tc.ns _ sl e, fun b o h => C.kt.heap b o (fun q => ?_) (G.keep b o h), G.tc.above⟩
  rcases List.mem_cons.mp q with rfl | q
  · rw [G.no b (by simp)] at h; cases h
  · rcases List.mem_cons.mp q with rfl | q
    · rw [G.no b (by simp)] at h; cases h
    · exact nomatch q
theorem FilCore.news (G : FilGround w h₀ s₀ oF m L x d M D I l acc c ep es ts xs ys mean mg mb) (C : FilCore s₀ oF L I l xs i s) :
    News h₀ L s.heap ((x, filObj d M I) :: (d, dictOf [] 0) :: (M, conObj D) :: (D, setObj es ep ts) :: (I, litObj l i) :: (l, listOf acc c) :: others h₀ s.heap [x, d, M, D, I, l, L]) := by
  obtain ⟨n1, n2, n3, n4, n5, n6⟩ := G.ne
  have kp : ∀ b, b ≠ I → b ≠ L → ∀ o, s₀.heap.get? b = some o → s.heap.get? b = some o := fun b h1 h2 o e => C.kt.heap b o (by simp [h1, h2]) e
  intro p hp
  rcases List.mem_cons.mp hp with rfl | hp
  · exact ⟨kp x (by omega) (by omega) _ G.ox, show x ≠ L by omega, G.no x (by simp)⟩
  rcases List.mem_cons.mp hp with rfl | hp
  · exact ⟨kp d (by omega) (by omega) _ G.od, show d ≠ L by omega, G.no d (by simp)⟩
  rcases List.mem_cons.mp hp with rfl | hp
  · exact ⟨kp M (by omega) (by omega) _ G.oM, show M ≠ L by omega, G.no M (by simp)⟩
  rcases List.mem_cons.mp hp with rfl | hp
  · exact ⟨kp D (by omega) (by omega) _ G.oD, show D ≠ L by omega, G.no D (by simp)⟩
  rcases List.mem_cons.mp hp with rfl | hp
  · exact ⟨C.it, show I ≠ L by omega, G.no I (by simp)⟩
  rcases List.mem_cons.mp hp with rfl | hp
  · exact ⟨kp l (by omega) (by omega) _ G.ol, show l ≠ L by omega, G.no l (by simp)⟩
  · obtain ⟨h1, h2, h3⟩ := mem_others.mp (show (p.1, p.2) ∈ _ from hp)
    exact ⟨h3, fun q => h1 (by rw [q]; simp), h2⟩
theorem fil_kept {h' : Heap} {tk : Nat} {oI : Obj} {mm : Str → Option Value} (F' : Fr h₀ L h' mm) (k0 : ∀ b o, h₀.get? b = some o → s.heap.get? b = some o)
    (N : News h₀ L s.heap ((x, filObj d M I) :: (d, dictOf [] 0) :: (M, conObj D) :: (D, setObj es ep ts) :: (I, litObj l i) :: (l, listOf acc c) :: others h₀ s.heap [x, d, M, D, I, l, L]))
    (N' : News h₀ L h' ((x, filObj d M I) :: (d, dictOf [] 0) :: (M, conObj D) :: (D, setObj es ep ts) :: (I, oI) :: (l, listOf acc c) :: others h₀ s.heap [x, d, M, D, I, l, L])) : Kh [I, L] s { s with heap := h', toks := tk } := by
  refine ⟨fun b o hb e => ?_, rfl, rfl, rfl⟩
  cases h0 : h₀.get? b with
  | some o' =>
    have := k0 b o' h0
    rw [e] at this
    cases this
    exact F'.keep _ _ h0
  | none =>
    have same : ∀ {b' o'}, (b', o') ∈ (x, filObj d M I) :: (d, dictOf [] 0) :: (M, conObj D) :: (D, setObj es ep ts) :: (I, litObj l i) :: (l, listOf acc c) :: others h₀ s.heap [x, d, M, D, I, l, L] →
        (b', o') ∈ (x, filObj d M I) :: (d, dictOf [] 0) :: (M, conObj D) :: (D, setObj es ep ts) :: (I, oI) :: (l, listOf acc c) :: others h₀ s.heap [x, d, M, D, I, l, L] → b = b' → h'.get? b = some o := by
      intro b' o' m1 m2 q
      subst q
      have z := (N _ m1).1
      rw [e] at z
      cases z
      exact (N' _ m2).1
    by_cases q : b = x
    · exact same (.head _) (.head _) q
    by_cases q : b = d
    · exact same (.tail _ (.head _)) (.tail _ (.head _)) q
    by_cases q : b = M
    · exact same (.tail _ (.tail _ (.head _))) (.tail _ (.tail _ (.head _))) q
    by_cases q : b = D
    · exact same (.tail _ (.tail _ (.tail _ (.head _)))) (.tail _ (.tail _ (.tail _ (.head _)))) q
    by_cases q : b = l
    · exact same (.tail _ (.tail _ (.tail _ (.tail _ (.tail _ (.head _)))))) (.tail _ (.tail _ (.tail _ (.tail _ (.tail _ (.head _)))))) q
    · refine (N' (b, o) (.tail _ (.tail _ (.tail _ (.tail _ (.tail _ (.tail _ (mem_others.mpr ⟨fun q => ?_, h0, e⟩)))))))).1
      simp only [List.mem_cons, List.not_mem_nil, or_false, not_or] at q hb
      rcases q with q | q | q | q | q | q | q <;> simp_all
theorem FilCore.poke (hS : s₀.heap.get? S = none) (n2 : S ≠ I) (n3 : S ≠ L) (f : Obj → Obj) (C : FilCore s₀ oF L I l xs i s) : FilCore s₀ oF L I l xs i { s with heap := s.heap.update S f } := by
  obtain ⟨kt, ⟨sl, e1⟩, e2, le⟩ := C
  exact ⟨⟨fun b o hb e => (Heap.get?_update_other _ _ (fun q : S = b => by rw [← q, hS] at e; cases e)).trans (kt.heap b o hb e), kt.gens, kt.drawn, kt.os⟩, ⟨sl, (Heap.get?_update_other _ _ n3).trans e1⟩, (Heap.get?_update_other _ _ n2).trans e2, le⟩
theorem FilCore.grow {h' : Heap} {tk : Nat} (hk : ∀ b o, s.heap.get? b = some o → h'.get? b = some o) (C : FilCore s₀ oF L I l xs i s) : FilCore s₀ oF L I l xs i { s with heap := h', toks := tk } := by
  obtain ⟨kt, ⟨sl, e1⟩, e2, le⟩ := C
  exact ⟨⟨fun b o hb e => hk b o (kt.heap b o hb e), kt.gens, kt.drawn, kt.os⟩, ⟨sl, hk _ _ e1⟩, hk _ _ e2, le⟩
theorem fil_inst (G : FilGround w h₀ s₀ oF m L x d M D I l acc c ep es ts xs ys mean mg mb) (C : FilCore s₀ oF L I l xs i s) : ∃ ox, InstAt s.heap x ox 108 (some (dictOf [] 0)) := by
  have N := C.news G
  exact ⟨_, (N _ (.head _)).1, rfl, rfl, (N _ (.tail _ (.head _))).1⟩
theorem fil_iter {Q : Value → Shared → Prop} {E : Value → Shared → Prop} (hk : cs.kind = .function) (hdp : dp ≤ 400) (hu : un ≤ 3000) (G : FilGround w h₀ s₀ oF m L x d M D I l acc c ep es ts xs ys mean mg mb)
    (C : FilCore s₀ oF L I l xs i s) (hY : ∀ h' tk, (∀ b o, s.heap.get? b = some o → h'.get? b = some o) → Q (.ref x) { s with heap := h', toks := tk }) :
    wpAny (model PP w) (ktrTop dp un gd cn cs L la ccd cl []) (pyIter (.ref x)) Q E s := by
  obtain ⟨ox, I1⟩ := fil_inst G C
  have F := C.fr_ G
  have X := G.X.keeps F.keep
  have T := G.T.keeps F.keep
  have hr : dp + 100 < recursionLimit := by show dp + 100 < 1000; omega
  refine owit_iter (C := 108) (f := 97) F G.X I1 ?hs ?hf ?_
  case hs => k_is
  case hf => k_is
  refine wpAny_call ?_
  (refine' enter (binds := [(Str.ofString "self", .ref x)]) X T ?k6 ?k7 ?k8 ?k9 ?kB ?_ ?c2 ?c3 ?c4 ?c5; (case k6 => k_is); (case k7 => k_is); (case k8 => k_room); (case k9 => exact BindsTo.of_eq rfl); (case kB => exact locs rfl); (case c2 => exact rfl); (case c3 => exact rfl); (case c4 => exact rfl); (case c5 => decide); intro L' h₁ hL' F' N')
  dsimp only
  k_steps
  have C' := C.grow (tk := tk) F'.keep
  obtain ⟨ox', I'⟩ := fil_inst G C'
  exact owit_it (C := 108) (g := .ref 104) (C'.fr_ G) G.X I' (by k_is) (hY _ _ F'.keep)
theorem fil_next_any {Q : Option Value → Shared → Prop} {E : Value → Shared → Prop} (hk : cs.kind = .function) (hdp : dp ≤ 400) (hu : un ≤ 3000) (G : FilGround w h₀ s₀ oF m L x d M D I l acc c ep es ts xs ys mean mg mb)
    (C : FilCore s₀ oF L I l xs i s)
    (hY : ∀ y t s' j, (xs.drop i).filter (fun z => decide (z ∉ ys)) = y :: (xs.drop j).filter (fun z => decide (z ∉ ys)) → FilCore s₀ oF L I l xs j s' → Kh [I, L] s s' → Q (some (.str y t)) s')
    (hE : (xs.drop i).filter (fun z => decide (z ∉ ys)) = [] → ∀ s', Kh [I, L] s s' → (∃ sl, s'.heap.get? L = some { oF with slots := sl }) → Q none s') :
    wpAny (model PP w) (ktrTop dp un gd cn cs L la ccd cl []) (pyNext (.ref x)) Q E s := by
  obtain ⟨sl, eL⟩ := C.fr
  have F := C.fr_ G
  have N := C.news G
  obtain ⟨n1, n2, n3, n4, n5, n6⟩ := G.ne
  have hI : ∀ p ∈ others h₀ s.heap [x, d, M, D, I, l, L], p.1 ≠ I := fun p hp q => (mem_others.mp (show (p.1, p.2) ∈ _ from hp)).1 (by rw [q]; simp)
  refine fil_next F G.X G.T hk hdp hu eL N hI n3 n4 n5 n6 n2 G.sf G.ha C.le (fun y t h' tk j e hj F' L' N' => ?_) (fun e h' tk oI F' L' N' => ?_)
  · have K := fil_kept (tk := tk) F' F.keep N N'
    obtain ⟨sl', e'⟩ := L'
    exact hY y t _ j e ⟨C.kt.trans K, ⟨sl', e'⟩, (N' _ (.tail _ (.tail _ (.tail _ (.tail _ (.head _)))))).1, hj⟩ K
  · have K := fil_kept (tk := tk) F' F.keep N N'
    obtain ⟨sl', e'⟩ := L'
    exact hE e _ K ⟨sl', e'⟩
theorem fil_tell (hk : cs.kind = .function) (hdp : dp ≤ 400) (hu : un ≤ 3000) (G : FilGround w h₀ s₀ oF m L x d M D I l acc c ep es ts xs ys mean mg mb) (hS : s₀.heap.get? S = none) (n2 : S ≠ I) (n3 : S ≠ L) :
    Telling PP w (ktrTop dp un gd cn cs L la ccd cl []) x 108 S (xs.filter fun z => decide (z ∉ ys)) (FilSt s₀ oF L I l xs ys) (FilFin s₀ oF L I) where
  poke := fun j s f ⟨i, C, e⟩ => ⟨i, C.poke hS n2 n3 f, e⟩
  item := fun j s o Q E hj st ho hQ => by
    obtain ⟨i, C, e⟩ := st
    have hSw : S ∉ [I, L] := by simp [n2, n3]
    refine fil_next_any hk hdp hu G C (fun y t s' j' e' C' K => ?_) (fun e' => ?_)
    · rw [e'] at e
      have hg := List.getElem?_eq_getElem hj
      rw [List.drop_eq_getElem_cons hj] at e
      obtain ⟨e1, e2⟩ := List.cons.inj e
      exact hQ y t s' (by rw [hg, e1]) ⟨j', C', e2⟩ (K.heap _ _ hSw ho)
    · rw [e'] at e
      have := congrArg List.length e
      rw [List.length_drop, List.length_nil] at this
      omega
  done := fun s o Q E st ho hQ => by
    obtain ⟨i, C, e⟩ := st
    have hSw : S ∉ [I, L] := by simp [n2, n3]
    rw [List.drop_length] at e
    refine fil_next_any hk hdp hu G C (fun y t s' j' e' C' K => ?_) (fun e' s' K hl => hQ s' ⟨C.kt.trans K, hl⟩ (K.heap _ _ hSw ho))
    rw [e'] at e; cases e
  iter := fun s o Q E st ho hQ => by
    obtain ⟨i, C, e⟩ := st
    exact fil_iter hk hdp hu G C fun h' tk hk' => hQ _ ⟨i, C.grow hk', e⟩ (hk' _ _ ho)
  type := fun s Q E st hQ => by
    obtain ⟨i, C, e⟩ := st
    obtain ⟨ox, I1⟩ := fil_inst G C
    exact I1.type.here hQ
  bare := fun nm s Q E hnm st hQ => by
    obtain ⟨i, C, e⟩ := st
    obtain ⟨ox, I1⟩ := fil_inst G C
    have X := G.X.keeps (C.fr_ G).keep
    unfold specialOf
    rcases hnm with rfl | rfl
    · refine wpAny_bind (I1.type.here ((looks_findIn (r := none) X ?_).here hQ))
      k_is
    · refine wpAny_bind (I1.type.here ((looks_findIn (r := none) X ?_).here hQ))
      k_is
end
end Mine

namespace Mine
/-- these values are these things -/
noncomputable def Things : List Value → List Thing → Prop
  | [], [] => True
  | v :: vs, th :: ths => IsThing v th ∧ Things vs ths
  | _, _ => False
theorem Things.length : ∀ {vs : List Value} {ths : List Thing}, Things vs ths → vs.length = ths.length
  | [], [], _ => rfl
  | _ :: _, _ :: _, h => congrArg (· + 1) h.2.length
  | [], _ :: _, h => h.elim
  | _ :: _, [], h => h.elim
theorem Things.get : ∀ {vs : List Value} {ths : List Thing}, Things vs ths → ∀ {i : Nat} {th : Thing}, ths[i]? = some th → ∃ v, vs[i]? = some v ∧ IsThing v th
  | v :: _, _ :: _, h, 0, _, e => by cases e; exact ⟨v, rfl, h.1⟩
  | _ :: _, _ :: _, h, i + 1, _, e => h.2.get (i := i) e
  | [], [], _, _, _, e => nomatch e
  | [], _ :: _, h, _, _, _ => h.elim
  | _ :: _, [], h, _, _, _ => h.elim
noncomputable def octOf (th : Thing) : List Nat := if th.bits % 256 = 175 then [33] else if th.bits % 256 = 47 then [] else [(th.bits % 256).toNat]
noncomputable def octs (ths : List Thing) : List Nat := ths.flatMap octOf
theorem octOf_len (th : Thing) : (octOf th).length ≤ 1 := by
  unfold octOf; repeat' split
  all_goals simp
theorem octs_len : ∀ ths : List Thing, (octs ths).length ≤ ths.length
  | [] => Nat.le_refl _
  | th :: ths => by
    have := octOf_len th; have := octs_len ths
    show (octOf th ++ octs ths).length ≤ _
    rw [List.length_append, List.length_cons]; omega
theorem octs_snoc (ths : List Thing) (th : Thing) : octs (ths ++ [th]) = octs ths ++ octOf th := by simp [octs]
theorem mapA {X C V vc vt xo : Option Value} {b : Str → Option Value} (y : Str) : (if y = Str.ofString "text" then X else if y = Str.ofString "code" then C else if y = Str.ofString "thing" then V else if y = Str.ofString "code" then vc else if y = Str.ofString "thing" then vt else if y = Str.ofString "text" then xo else b y) =
    (if y = Str.ofString "code" then C else if y = Str.ofString "thing" then V else if y = Str.ofString "text" then X else b y) := by
  have n1 : Str.ofString "text" ≠ Str.ofString "code" := by decide
  have n2 : Str.ofString "text" ≠ Str.ofString "thing" := by decide
  by_cases h1 : y = Str.ofString "text"
  · subst h1; rw [if_pos rfl, if_neg n1, if_neg n2, if_pos rfl]
  · by_cases h2 : y = Str.ofString "code"
    · rw [if_neg h1, if_pos h2, if_pos h2]
    · by_cases h3 : y = Str.ofString "thing"
      · rw [if_neg h1, if_neg h2, if_pos h3, if_neg h2, if_pos h3]
      · simp only [h1, h2, h3, if_false]
theorem mapB {C V vc vt : Option Value} {b : Str → Option Value} (y : Str) : (if y = Str.ofString "code" then C else if y = Str.ofString "thing" then V else if y = Str.ofString "code" then vc else if y = Str.ofString "thing" then vt else b y) =
    (if y = Str.ofString "code" then C else if y = Str.ofString "thing" then V else b y) := by
  by_cases h2 : y = Str.ofString "code"
  · rw [if_pos h2, if_pos h2]
  · by_cases h3 : y = Str.ofString "thing"
    · rw [if_neg h2, if_pos h3, if_neg h2, if_pos h3]
    · simp only [h2, h3, if_false]
noncomputable def LitIt (o : Obj) (l : Addr) (i : Nat) : Prop := o.cls = .type "list_iterator" ∧ o.data = .fields #[.ref l, .int i 0]
section
variable {prog : Program} {w : World} {A : Around} {E : Value → Shared → Prop} {s : Shared} {h₀ : Heap} {L l I : Addr} {m : Str → Option Value} {news news' : List (Addr × Obj)} {acc : Array Value} {c i : Nat} {g : Obj → List (Addr × Obj)}
theorem lst_iterN {Q : Value → Shared → Prop} (F : Fr h₀ L s.heap m) (N : News h₀ L s.heap news) (hl : s.heap.get? l = some (listOf acc c))
    (k : ∀ I h' o, Fr h₀ L h' m → News h₀ L h' ((I, o) :: news) → (∀ p ∈ news, p.1 < I) → LitIt o l 0 → Q (.ref I) { s with heap := h' }) : wpAny (model prog w) A (pyIter (.ref l)) Q E s :=
  wpAny_pyIter_list (items := acc) ⟨_, hl, rfl, c, rfl⟩ (k _ _ _ (F.push _) (News.push F N { cls := .type "list_iterator", data := .fields #[.ref l, .int 0 0] }) (fun p hp => Heap.lt_size (N p hp).1) ⟨rfl, rfl⟩)
theorem lst_nextN {Q : Option Value → Shared → Prop} {v : Value} {o : Obj} (F : Fr h₀ L s.heap m) (N : News h₀ L s.heap news) (U : UpdF I o news g) (hi : LitIt o l i) (hl : s.heap.get? l = some (listOf acc c)) (hx : acc[i]? = some v)
    (k : ∀ h' o', Fr h₀ L h' m → News h₀ L h' (g o') → LitIt o' l (i + 1) → Q (some v) { s with heap := h' }) : wpAny (model prog w) A (pyNext (.ref I)) Q E s := by
  obtain ⟨pre, post, hsp, hg, ha, hb⟩ := U.split
  have z := N (I, o) (by rw [hsp]; exact List.mem_append_right _ (.head _))
  refine wpAny_pyNext_list_item (items := acc) (l := l) (i := i) ⟨_, z.1, hi.1, hi.2⟩ ⟨_, hl, rfl, c, rfl⟩ hx fun h' hit hs => ?_
  obtain ⟨o', ho', hc', hd'⟩ := hit
  exact k h' o' (F.change hs z.2.1 z.2.2) (hg o' ▸ (show News h₀ L s.heap (pre ++ (I, o) :: post) from hsp ▸ N).setIn ha hb hs ho') ⟨hc', hd'⟩
theorem lst_doneN {Q : Option Value → Shared → Prop} {o : Obj} (hh : A.handled = none) (F : Fr h₀ L s.heap m) (N : News h₀ L s.heap news) (U : UpdF I o news g) (D : DropAt I news news') (hi : LitIt o l i) (hl : s.heap.get? l = some (listOf acc c)) (hx : acc[i]? = none)
    (k : ∀ h', Fr h₀ L h' m → News h₀ L h' news' → Q none { s with heap := h' }) : wpAny (model prog w) A (pyNext (.ref I)) Q E s := by
  obtain ⟨pre, post, hsp, hg, ha, hb⟩ := U.split
  obtain rfl := D.eq hsp ha hb
  have hm := N (I, o) (by rw [hsp]; exact List.mem_append_right _ (.head _))
  refine wpAny_pyNext_list_end (items := acc) (l := l) (i := i) hh ⟨_, hm.1, hi.1, hi.2⟩ ⟨_, hl, rfl, c, rfl⟩ hx fun h' hx => k h' ⟨F.ns.at' fun o e => hx _ _ (Ne.symm hm.2.1) e, fun b o e => hx _ _ (fun q => by rw [q, hm.2.2] at e; cases e) (F.keep _ _ e), F.above⟩ fun p hp => ?_
  rcases List.mem_append.mp hp with q | q
  · have z := N p (by rw [hsp]; exact List.mem_append_left _ q)
    exact ⟨hx _ _ (ha _ q) z.1, z.2⟩
  · have z := N p (by rw [hsp]; exact List.mem_append_right _ (.tail _ q))
    exact ⟨hx _ _ (hb _ q) z.1, z.2⟩
noncomputable def Stop (P : Prop) : Prop := P
theorem stop {P : Prop} (h : Stop P) : P := h
theorem frCongr {h : Heap} {m m' : Str → Option Value} (F : Fr h₀ L h m) (e : ∀ y, m y = m' y) : Fr h₀ L h m' := (funext e : m = m') ▸ F
end
local macro_rules | `(tactic| walk_at "exec For Name Name cons nil") => `(tactic| (k_here; k_dflt (refine' owit_for ?_; k_whole)))
local macro_rules | `(tactic| walk_at "pyIter ref") => `(tactic| ((with_reducible show wpAny _ _ (pyIter (Value.ref _)) (OwitAt _ _ _ _ _ _ _ _) _ _); k_here; k_dflt (refine' lst_iterN ?F ?N ?h ?_; (case F => k_asm); (case N => k_asm); (case h => first | assumption | exact Fr.keep (by assumption) _ _ (by assumption)); intro I' h' o' F' N' l1 hi'; (try k_lt l1))))
local macro_rules | `(tactic| walk_at "pyNext ref") => `(tactic| ((with_reducible show wpAny _ _ (pyNext (Value.ref _)) (OwitTurn _ _ _ _ _ _ _ _ _) _ _); k_here; k_dflt (first
  | (refine' lst_nextN ?F ?N ?U ?i ?t ?x ?_; (case F => k_asm); (case N => k_asm); (case U => k_updF); (case i => k_asm); (case t => first | assumption | exact Fr.keep (by assumption) _ _ (by assumption)); (case x => assumption); intro h' o' F' N' hi'; (try dsimp only at N'))
  | (refine' lst_doneN rfl ?F ?N ?U ?D ?i ?t ?x ?_; (case F => k_asm); (case N => k_asm); (case U => k_updF); (case D => repeat (first | exact DropAt.here | refine' DropAt.there ?_)); (case i => k_asm); (case t => first | assumption | exact Fr.keep (by assumption) _ _ (by assumption)); (case x => assumption); intro h' F' N'; (try dsimp only at N')))))
local macro_rules | `(tactic| walk_at "OwitRest") => `(tactic| (refine stop ?_))
section
variable {w : World} {dp un : Nat} {fr : Option (List Env)} {gd : Option (List Code)} {s : Shared} {Q E : Value → Shared → Prop}
theorem octets_call {l : Addr} {vs : List Value} {c : Nat} {ths : List Thing} (hl : s.heap.get? l = some (listOf vs.toArray c)) (hv : Things vs ths) (hn : ths.length ≤ 60) (G : Gnd w s.heap) (hdp : dp + 3 < recursionLimit) (hu : un + 30 < cLine)
    (h : Back s Q (fun t => .str ⟨(octs ths).toArray⟩ t)) :
    wpAny (model PP w) (Ar dp un fr gd) (call (.ref 203) [.ref l]) Q E s := by
  obtain ⟨X, mean, mg, mb, T⟩ := G
  refine wpAny_call ?_
  (refine' enter (binds := [(Str.ofString "row", .ref l)]) X T ?k6 ?k7 ?k8 ?k9 ?kB ?_ ?c2 ?c3 ?c4 ?c5; (case k6 => k_is); (case k7 => k_is); (case k8 => (first | omega | (dsimp only [Ar]; omega) | (simp only [Around.in1_depth] at *; omega))); (case k9 => exact BindsTo.of_eq rfl); (case kB => exact locs rfl); (case c2 => exact rfl); (case c3 => exact rfl); (case c4 => exact rfl); (case c5 => decide); intro L h₁ hL F N)
  k_steps
  show OwitRest _ _ _ _ _ _ _ _ _ _ _
  rename Fr _ _ _ _ => F1
  rename LitIt _ _ _ => hi1
  rename News _ _ _ (_ :: _) => N1
  obtain ⟨r, hr⟩ : ∃ r, 0 + r = ths.length := ⟨ths.length, Nat.zero_add _⟩
  obtain ⟨x, hx⟩ : ∃ x : Str, x = ⟨(octs (ths.take 0)).toArray⟩ := ⟨_, rfl⟩
  have hs : Str.ofString "" = x := by rw [hx]; rfl
  obtain ⟨vc, hvc⟩ : ∃ vo : Option Value, vo = none := ⟨_, rfl⟩
  obtain ⟨vt, hvt⟩ : ∃ vo : Option Value, vo = none := ⟨_, rfl⟩
  have hrn : r < 64 := by omega
  generalize 64 = n at hrn ⊢
  rw [hs] at F1
  obtain ⟨i, hi0⟩ : ∃ i, i = 0 := ⟨0, rfl⟩
  rw [← hi0] at hi1 hr hx
  replace F1 := frCongr F1 (m' := fun y => if y = Str.ofString "code" then vc else if y = Str.ofString "thing" then vt else if y = Str.ofString "text" then some (.str x tk) else List.lookup y [(Str.ofString "row", Value.ref l)].reverse) (fun y => by
    rcases Decidable.em (y = Str.ofString "code") with q | q
    · rw [if_pos q]; subst q; subst hvc; rfl
    rcases Decidable.em (y = Str.ofString "thing") with p | p
    · rw [if_neg q, if_pos p]; subst p; subst hvt; rfl
    · rw [if_neg q, if_neg p])
  clear hvc hvt hi0 hs
  dsimp only
  generalize tk + 1 + 1 = tk2
  generalize tk = tx at F1
  rename_i hb N0 I hh o' l1
  clear N0 l1
  have hlv := hv.length
  have hxl : x.length ≤ i := by
    rw [hx]; show (octs _).toArray.size ≤ i
    have := octs_len (ths.take i)
    rw [List.length_take] at this
    rw [List.size_toArray]; omega
  induction r generalizing i n hh o' tk2 vc vt x tx with
  | zero =>
    have hix : vs.toArray[i]? = none := by
      rw [Array.getElem?_eq_none]; rw [List.size_toArray]; omega
    obtain ⟨n, rfl⟩ : ∃ k, n = k + 1 := ⟨n - 1, by omega⟩
    refine OwitRest.succ ?_
    k_steps
    all_goals (try dsimp only)
    rename Fr _ _ _ _ => F'
    refine Back.fin h F' rfl rfl rfl ⟨_, congrArg (fun x => Value.str x _) ?_⟩
    rw [hx, List.take_of_length_le (by omega)]
  | succ r ih =>
    have hlt : i < ths.length := by omega
    have hx60 : x.length ≤ 60 := by omega
    have ef : ∀ k : Int, k.fmod 256 = k % 256 := fun k => Int.fmod_eq_emod_of_nonneg k (by decide)
    obtain ⟨v, hv1, hv2⟩ := hv.get (List.getElem?_eq_getElem hlt)
    have hix : vs.toArray[i]? = some v := by rw [List.getElem?_toArray]; exact hv1
    obtain ⟨n, rfl⟩ : ∃ k, n = k + 1 := ⟨n - 1, by omega⟩
    refine OwitRest.succ ?_
    generalize hth : ths[i] = th at hv2
    cases th with
    | int k =>
      obtain ⟨t, rfl⟩ := hv2
      k_steps
      all_goals (show OwitRest _ _ _ _ _ _ _ _ _ _ _)
      all_goals (rename Fr s.heap L _ _ => F3)
      all_goals (rename News s.heap L _ _ => N3)
      all_goals (rename LitIt _ _ (i + 1) => hi3)
      all_goals (first
        | refine ih _ _ N3 _ _ _ n (by omega) (i + 1) ?_ (by omega) hi3 _ _ (frCongr F3 mapA) ?_
        | refine ih _ _ N3 _ _ _ n (by omega) (i + 1) ?_ (by omega) hi3 _ _ (frCongr F3 mapB) ?_)
      all_goals (first
        | (refine (?_ : (_ : Nat) ≤ i + 1); first | omega | (show Array.size (_ ++ _) ≤ i + 1; rw [Array.size_append]; show x.length + 1 ≤ i + 1; omega))
        | (rw [List.take_add_one, List.getElem?_eq_getElem hlt, hth, Option.toList_some, octs_snoc, hx]; refine Str.ext' ?_; simp only [ef] at *; simp only [Str.cps_append, octOf, Thing.bits]; simp [*, show Str.ofString "!" = ⟨#[33]⟩ from by decide]))
    | sign k =>
      obtain ⟨t, rfl⟩ := hv2
      k_steps
      all_goals (show OwitRest _ _ _ _ _ _ _ _ _ _ _)
      all_goals (rename Fr s.heap L _ _ => F3)
      all_goals (rename News s.heap L _ _ => N3)
      all_goals (rename LitIt _ _ (i + 1) => hi3)
      all_goals (first
        | refine ih _ _ N3 _ _ _ n (by omega) (i + 1) ?_ (by omega) hi3 _ _ (frCongr F3 mapA) ?_
        | refine ih _ _ N3 _ _ _ n (by omega) (i + 1) ?_ (by omega) hi3 _ _ (frCongr F3 mapB) ?_)
      all_goals (first
        | (refine (?_ : (_ : Nat) ≤ i + 1); first | omega | (show Array.size (_ ++ _) ≤ i + 1; rw [Array.size_append]; show x.length + 1 ≤ i + 1; omega))
        | (rw [List.take_add_one, List.getElem?_eq_getElem hlt, hth, Option.toList_some, octs_snoc, hx]; refine Str.ext' ?_; simp only [ef] at *; simp only [Str.cps_append, octOf, Thing.bits]; simp [*, show Str.ofString "!" = ⟨#[33]⟩ from by decide]))
end
end Mine

namespace Mine
section
variable {prog : Program} {w : World} {A : Around} {s : Shared} {h₀ : Heap} {L : Addr} {m : Str → Option Value} {env : Env} {ct elt : Expr} {x : Str} {scope : Scope} {cl : List (Str × Addr)} {S : List (Addr × Obj) → Prop} {P : Nat → Value → Prop} {Fin : List Value → List (Addr × Obj) → Prop} {news : List (Addr × Obj)}
/-- the turns of a comprehension with a test, by an invariant -/
theorem compT_ind (J : Nat → List Value → Prop) (n : Nat) (h0 : J 0 [])
    (turn : ∀ k i ys, i + (k + 1) = n → J i ys → (∀ ys', J (i + 1) ys' → LCt.CompRestT prog w A h₀ L m env ct elt x scope cl s S P Fin k (i + 1) ys' news) → LCt.CompRestT prog w A h₀ L m env ct elt x scope cl s S P Fin (k + 1) i ys news)
    (fin : ∀ ys, J n ys → Fin ys news) : LCt.CompRestT prog w A h₀ L m env ct elt x scope cl s S P Fin n 0 [] news := by
  have key : ∀ k i ys, i + k = n → J i ys → LCt.CompRestT prog w A h₀ L m env ct elt x scope cl s S P Fin k i ys news := by
    intro k
    induction k with
    | zero => intro i ys hi hJ; exact LCt.CompRestT.zero (fin ys (by rw [← hi]; exact hJ))
    | succ k ih => intro i ys hi hJ; exact turn k i ys hi hJ fun ys' h' => ih (i + 1) ys' (by omega) h'
  exact key n 0 [] (Nat.zero_add n) h0
theorem comp_ind (J : Nat → List Value → Prop) (n : Nat) (h0 : J 0 [])
    (turn : ∀ k i ys, i + (k + 1) = n → J i ys → (∀ ys', J (i + 1) ys' → LCg.CompRest prog w A h₀ L m env elt x scope cl s S P Fin k (i + 1) ys' news) → LCg.CompRest prog w A h₀ L m env elt x scope cl s S P Fin (k + 1) i ys news)
    (fin : ∀ ys, J n ys → Fin ys news) : LCg.CompRest prog w A h₀ L m env elt x scope cl s S P Fin n 0 [] news := by
  have key : ∀ k i ys, i + k = n → J i ys → LCg.CompRest prog w A h₀ L m env elt x scope cl s S P Fin k i ys news := by
    intro k
    induction k with
    | zero => intro i ys hi hJ; exact LCg.CompRest.zero (fin ys (by rw [← hi]; exact hJ))
    | succ k ih => intro i ys hi hJ; exact turn k i ys hi hJ fun ys' h' => ih (i + 1) ys' (by omega) h'
  exact key n 0 [] (Nat.zero_add n) h0
end
theorem strsAre_snoc {vs : List Value} {ys : List Str} {y : Str} {t : Tok} (h : StrsAre vs ys) : StrsAre (vs ++ [.str y t]) (ys ++ [y]) := by
  induction h with
  | nil => exact .cons y t .nil
  | cons z u _ ih => exact .cons z u ih
/-- a word that _law_sign reads as m -/
noncomputable def SignOf (y : Str) (m : Nat) : Prop := (∃ W, y = ⟨W.toArray⟩ ∧ BaseWord W m) ∨ (∃ W m', y = ⟨(33 :: W).toArray⟩ ∧ BaseWord W m' ∧ m = m' + 128)
/-- these words are read as these signs -/
noncomputable def Reads : List Str → List Nat → Prop
  | [], [] => True
  | [], _ :: _ => False
  | y :: ys, ms => (y = Str.ofString "" ∧ Reads ys ms) ∨ (y ≠ Str.ofString "" ∧ ∃ m r, ms = m :: r ∧ SignOf y m ∧ Reads ys r)
theorem reads_len : ∀ {ys : List Str} {ms : List Nat}, Reads ys ms → ms.length ≤ ys.length
  | [], [], _ => Nat.le_refl _
  | [], _ :: _, h => h.elim
  | y :: ys, ms, h => by
    rcases h with ⟨_, h⟩ | ⟨_, m, r, rfl, _, h⟩
    · have := reads_len h; rw [List.length_cons]; omega
    · have := reads_len h; rw [List.length_cons, List.length_cons]; omega
theorem txtJoin (x : Str) (l : List Str) : Txt.join x l = Str.join x l := (show Builtin.Str.glued x l = _ by rw [StrLaws.glued_eq_join])
theorem join_singles' : ∀ ms : List Nat, Str.join (Str.ofString "") (ms.map fun m => (⟨#[m]⟩ : Str)) = ⟨ms.toArray⟩
  | [] => rfl
  | [m] => rfl
  | m :: n :: ms => by
    show (⟨#[m]⟩ : Str) ++ Str.ofString "" ++ Str.join (Str.ofString "") ((n :: ms).map fun m => (⟨#[m]⟩ : Str)) = _
    rw [join_singles' (n :: ms)]
    refine Str.ext' ?_
    simp [Str.cps_append, show Str.ofString "" = ⟨#[]⟩ from rfl]
theorem join_singles (ms : List Nat) : Txt.join (Str.ofString "") (ms.map fun m => (⟨#[m]⟩ : Str)) = ⟨ms.toArray⟩ := (txtJoin _ _).trans (join_singles' ms)
theorem sum_singles (ms : List Nat) : ((ms.map fun m => (⟨#[m]⟩ : Str)).map (·.length)).sum = ms.length := by
  induction ms with
  | nil => rfl
  | cons m ms ih => rw [List.map_cons, List.map_cons, List.sum_cons, ih, List.length_cons]; show 1 + _ = _; omega
section
variable {w : World} {A : Around} {s : Shared} {Q E : Value → Shared → Prop}
theorem sign_of {y : Str} {m : Nat} {t : Tok} (hy : SignOf y m) (G : Gnd w s.heap) (hdp : A.depth + 6 < recursionLimit) (hu : A.units + 60 < cLine) (h : Back s Q (fun t => .str ⟨#[m]⟩ t)) :
    wpAny (model PP w) A (call (.ref 210) [.str y t]) Q E s := by
  rcases hy with ⟨W, rfl, hW⟩ | ⟨W, m', rfl, hW, rfl⟩
  · exact sign_base hW G (by omega) (by omega) h
  · exact sign_bang hW G hdp hu h
end
local macro_rules | `(tactic| walk_at "call ref") => `(tactic| ((with_reducible show wpAny _ _ (call (Value.ref 210) [.str _ _]) _ _ _); (refine sign_of (by assumption) (Gnd.keeps ⟨by assumption, _, _, _, by assumption⟩ (Fr.keep (by assumption))) ?k1 ?k2 (Back.of (by assumption) (by assumption) ?_)); (case k1 => (first | omega | (simp only [depth_deeper, units_deeper]; omega) | (simp only [depth_deeper, units_deeper]; dsimp only [Ar]; omega) | (dsimp only [Ar, Around.deeper] at *; omega))); (case k2 => (first | omega | (simp only [depth_deeper, units_deeper]; omega) | (simp only [depth_deeper, units_deeper]; dsimp only [Ar]; omega) | (dsimp only [Ar, Around.deeper] at *; omega))); intro t' h' tk' F' N'))
local macro_rules | `(tactic| walk_at "CompSrcT") => `(tactic| (refine stop ?_))
local macro_rules | `(tactic| walk_at "CompRestT") => `(tactic| (refine stop ?_))
section
variable {w : World} {dp un : Nat} {fr : Option (List Env)} {gd : Option (List Code)} {s : Shared} {Q E : Value → Shared → Prop}
theorem read_call {x : Str} {t : Tok} (hx : x.length ≤ 1000) (hsl : (Txt.split x (Str.ofString "/")).length ≤ 1000) (G : Gnd w s.heap) (hdp : dp + 20 < recursionLimit) (hu : un + 200 < cLine)
    {ms : List Nat} (hr : Reads (Txt.split x (Str.ofString "/")) ms) (h : Back s Q (fun t => .str ⟨ms.toArray⟩ t)) :
    wpAny (model PP w) (Ar dp un fr gd) (call (.ref 215) [.str x t]) Q E s := by
  obtain ⟨X, mean, mg, mb, T⟩ := G
  refine wpAny_call ?_
  (refine' enter (binds := [(Str.ofString "path", .str x t)]) X T ?k6 ?k7 ?k8 ?k9 ?kB ?_ ?c2 ?c3 ?c4 ?c5; (case k6 => k_is); (case k7 => k_is); (case k8 => (first | omega | (dsimp only [Ar]; omega) | (simp only [Around.in1_depth] at *; omega))); (case k9 => exact BindsTo.of_eq rfl); (case kB => exact locs rfl); (case c2 => exact rfl); (case c3 => exact rfl); (case c4 => exact rfl); (case c5 => decide); intro L h₁ hL F N)
  k_steps
  show LCt.CompSrcT _ _ _ _ _ _ _ _ _ _ _ _ _ _ _
  rename_i l hh k0 e1 e2 e3 e4 F1 N1
  have hll : (strValues l).toArray.size = (Txt.split x (Str.ofString "/")).length := by
    rw [← e1, List.size_toArray, strValues, List.length_map, List.length_map]
  refine LCt.CompSrcT.ledger rfl F1 N1 (.head _) ?sz ?_
  case sz => rw [hll]; show _ ≤ 16777216; omega
  intro g
  refine compT_ind (fun i ys => ∃ done rest, ms = done ++ rest ∧ StrsAre ys (done.map fun m => (⟨#[m]⟩ : Str)) ∧ Reads ((Txt.split x (Str.ofString "/")).drop i) rest) _ ⟨[], ms, rfl, .nil, hr⟩ ?turn ?fin
  case fin =>
    rintro ys ⟨done, rest, hms, hs, hrd⟩
    obtain rfl : rest = [] := by
      rw [hll, List.drop_length] at hrd
      cases rest with
      | nil => rfl
      | cons _ _ => exact hrd.elim
    intro D h2 tk2 F2 N2 off
    k_steps
    have hlen := reads_len hr
    rw [List.append_nil] at hms
    refine join_listW (News.isList N2 (.head _)) hs (by decide) (by rw [sum_singles, List.length_map, ← hms]; omega) ?_
    intro t2 k2
    refine Back.fin h F2 rfl rfl rfl ⟨_, congrArg (fun x => Value.str x _) ?_⟩
    rw [join_singles, hms]
  case turn =>
    rintro k i ys hi ⟨done, rest, hms, hs, hrd⟩ ih
    rw [hll] at hi
    refine LCt.CompRestT.succ ?_
    intro v I oI C oC D m₂ h2 tk2 E' hv hC hx2 F2 N2 off ne
    have hi' : i < (Txt.split x (Str.ofString "/")).length := by omega
    have hil : i < l.length := by rw [← e1, List.length_map] at hi'; exact hi'
    rw [List.getElem?_toArray, strValues, List.getElem?_map, List.getElem?_eq_getElem hil] at hv
    obtain rfl : Value.str l[i].1 l[i].2 = v := Option.some.inj hv
    have hdr : (Txt.split x (Str.ofString "/")).drop i = l[i].1 :: (Txt.split x (Str.ofString "/")).drop (i + 1) := by
      rw [List.drop_eq_getElem_cons hi']; congr 1; simp only [← e1, List.getElem_map]
    rw [hdr] at hrd
    generalize l[i].1 = y at *
    generalize l[i].2 = ty at *
    rcases hrd with ⟨hy, hrd⟩ | ⟨hy, m, r, rfl, hsg, hrd⟩
    · k_steps
      · exfalso; subst hy; first | exact absurd ‹(Str.ofString "" != Str.ofString "") = true› (by decide) | contradiction
      · rename Fr s.heap L h2 _ => F3
        rename News s.heap L h2 _ => N3
        exact LCg.CompEnd.intro F3 N3 [(h₁.objs.size, _)] (fun p hp => hp) off (.inr ⟨_, .head _, rfl, _, rfl⟩) (ih ys ⟨done, rest, hms, hs, hrd⟩)
    · k_steps
      · rename Fr s.heap L _ _ => F3
        rename News s.heap L _ _ => N3
        refine LCg.CompEnd.intro F3 N3 [(h₁.objs.size, _)] (fun p hp => hp) off (.inr ⟨_, .head _, rfl, _, rfl⟩) (ih _ ⟨done ++ [m], r, by rw [hms, List.append_assoc]; rfl, ?_, hrd⟩)
        rw [List.map_append]
        exact strsAre_snoc hs
      · exfalso; exact absurd ‹(y != Str.ofString "") = false› (by simp [hy])
end
end Mine

namespace Mine
theorem slash_ : Str.ofString "/" = ⟨#[47]⟩ := by decide
theorem empty_ : Str.ofString "" = ⟨#[]⟩ := by decide
/-! texts as lists of signs -/
noncomputable def J : List (List Nat) → List Nat
  | [] => []
  | [x] => x
  | x :: y :: r => x ++ 47 :: J (y :: r)
noncomputable def mk (l : List Nat) : Str := ⟨l.toArray⟩
theorem mk_len (l : List Nat) : (mk l).length = l.length := by simp [mk, Str.length]
theorem mk_list (l : List Nat) : (mk l).cps.toList = l := by simp [mk]
theorem mk_inj {a b : List Nat} (h : mk a = mk b) : a = b := by
  have := congrArg (fun x : Str => x.cps.toList) h
  simpa [mk] using this
theorem mk_of (x : Str) : x = mk x.cps.toList := by cases x; rfl
theorem join_mk : ∀ zs : List (List Nat), Str.join (Str.ofString "/") (zs.map mk) = mk (J zs)
  | [] => rfl
  | [x] => rfl
  | x :: y :: r => by
    show mk x ++ Str.ofString "/" ++ Str.join (Str.ofString "/") ((y :: r).map mk) = _
    rw [join_mk (y :: r), slash_]
    refine Str.ext' ?_
    simp [mk, Str.cps_append, J]
theorem J_app : ∀ {a b : List (List Nat)}, a ≠ [] → b ≠ [] → J (a ++ b) = J a ++ 47 :: J b
  | [], _, h, _ => absurd rfl h
  | [x], [], _, h => absurd rfl h
  | [x], y :: b, _, _ => rfl
  | x :: y :: r, b, _, hb => by
    show x ++ 47 :: J ((y :: r) ++ b) = _
    rw [J_app (List.cons_ne_nil _ _) hb]
    simp [J]
theorem J_snoc {r : List (List Nat)} (t : List Nat) (h : r ≠ []) : J (r ++ [t]) = J r ++ 47 :: t := J_app h (List.cons_ne_nil _ _)
/-- the text less the slashes at its end -/
noncomputable def rst (l : List Nat) : List Nat := (l.reverse.dropWhile (· == 47)).reverse
theorem rst_slash (l : List Nat) : rst (l ++ [47]) = rst l := by simp [rst]
theorem rst_keep {l : List Nat} {c : Nat} (h : c ≠ 47) : rst (l ++ [c]) = l ++ [c] := by simp [rst, h]
theorem rst_nil : rst [] = [] := rfl
theorem rst_len (l : List Nat) : (rst l).length ≤ l.length := by
  unfold rst
  rw [List.length_reverse]
  have := (List.dropWhile_sublist (fun x : Nat => x == 47) (l := l.reverse)).length_le
  rw [List.length_reverse] at this
  exact this
theorem snoc_of {t : List Nat} (h : t ≠ []) : ∃ u c, t = u ++ [c] := ⟨t.dropLast, t.getLast h, (List.dropLast_concat_getLast h).symm⟩
theorem rst_word {l t : List Nat} (ht : t ≠ []) (hf : 47 ∉ t) : rst (l ++ t) = l ++ t := by
  obtain ⟨u, c, rfl⟩ := snoc_of ht
  rw [← List.append_assoc]
  exact rst_keep (fun e => hf (by simp [e]))
theorem rst_J_nil (r : List (List Nat)) : rst (J (r ++ [[]])) = rst (J r) := by
  cases r with
  | nil => rfl
  | cons a r => rw [J_snoc _ (List.cons_ne_nil _ _)]; exact rst_slash _
theorem rst_J_word (r : List (List Nat)) {t : List Nat} (ht : t ≠ []) (hf : 47 ∉ t) : rst (J (r ++ [t])) = J (r ++ [t]) := by
  cases r with
  | nil => exact rst_word (l := []) ht hf
  | cons a r =>
    rw [J_snoc _ (List.cons_ne_nil _ _), show J (a :: r) ++ 47 :: t = (J (a :: r) ++ [47]) ++ t by simp]
    exact rst_word ht hf
/-! the model's words on them -/
theorem takeWhile_dropWhile_len {α : Type} (p : α → Bool) : ∀ l : List α, l.dropWhile p = l.drop (l.takeWhile p).length
  | [] => rfl
  | a :: r => by
    rw [List.dropWhile_cons, List.takeWhile_cons]
    split
    · rw [takeWhile_dropWhile_len p r]; rfl
    · rfl
theorem goes47 : (fun c => (⟨#[47]⟩ : Str).cps.contains c) = fun c : Nat => c == 47 := by
  funext c
  rw [Bool.eq_iff_iff]
  simp
theorem rstrip_mk (l : List Nat) : Txt.rstripChars (mk l) (Str.ofString "/") = mk (rst l) := by
  rw [slash_]
  unfold Txt.rstripChars
  rw [PyProof.Rows.stripBy_eq]
  refine Str.ext' (Array.toList_inj.mp ?_)
  rw [StrLaws.strSub_toList, mk_list, mk_list]
  have e0 : PySem.stripLo (⟨#[47]⟩ : Str).cps.contains false (mk l) = 0 := by simp [PySem.stripLo]
  rw [e0]
  simp only [PySem.stripHi, if_true, mk_list, List.drop_zero, Nat.sub_zero, mk_len]
  rw [show ((⟨#[47]⟩ : Str).cps.contains) = (fun c : Nat => c == 47) from goes47]
  unfold rst
  rw [takeWhile_dropWhile_len, List.drop_reverse, List.reverse_reverse]
theorem rstrip_len (x : Str) : (Txt.rstripChars x (Str.ofString "/")).length ≤ x.length := by
  rw [mk_of x, rstrip_mk, mk_len, mk_len]
  exact rst_len _
theorem rfind_none {l : List Nat} (h : 47 ∉ l) : Txt.rfind (mk l) (Str.ofString "/") = -1 := by
  unfold Txt.rfind
  rw [slash_]
  rcases StrLaws.last_spec (mk l) ⟨#[47]⟩ with ⟨e, _⟩ | ⟨i, e, hA, _⟩
  · rw [e]
  · have := (StrLaws.subAt_one (mk l) 47 i).mp hA
    rw [mk_list] at this
    exact absurd (List.mem_of_getElem? this) h
theorem rfind_some {a t : List Nat} (h : 47 ∉ t) : Txt.rfind (mk (a ++ 47 :: t)) (Str.ofString "/") = a.length := by
  unfold Txt.rfind
  rw [slash_]
  have h0 : StrLaws.At (mk (a ++ 47 :: t)) ⟨#[47]⟩ (mk (a ++ 47 :: t)).length a.length := (StrLaws.subAt_one _ 47 _).mpr (by rw [mk_list]; simp)
  rcases StrLaws.last_spec (mk (a ++ 47 :: t)) ⟨#[47]⟩ with ⟨_, hn⟩ | ⟨i, e, hA, hn⟩
  · exact absurd h0 (hn _)
  · rw [e]
    have hi := (StrLaws.subAt_one _ 47 i).mp hA
    rw [mk_list] at hi
    rcases Nat.lt_trichotomy i a.length with q | q | q
    · exact absurd h0 (hn _ q)
    · rw [q]
    · rw [List.getElem?_append_right (by omega)] at hi
      obtain ⟨k, hk⟩ : ∃ k, i - a.length = k + 1 := ⟨i - a.length - 1, by omega⟩
      rw [hk] at hi
      exact absurd (List.mem_of_getElem? (show t[k]? = some 47 from hi)) h
theorem slice_to {l : List Nat} {k : Nat} (h : k ≤ l.length) : Txt.slice (mk l) none (some (k : Int)) = mk (l.take k) := by
  have := beq_iff_eq.mp (slice_closes_to (x := mk l) (j := (k : Int)) ⟨by omega, by rw [mk_list]; omega⟩)
  rw [this, mk_list]
  simp [mk]
theorem slice_last {l : List Nat} {c : Nat} : Txt.slice (mk (l ++ [c])) (some (-1)) none = mk [c] := by
  have hn : (mk (l ++ [c])).length = l.length + 1 := by rw [mk_len]; simp
  have := beq_iff_eq.mp (slice_closes_from_neg (x := mk (l ++ [c])) (i := -1) (a := l.length) (b := l.length + 1) (by decide) (by rw [hn]; omega) (by rw [hn]; omega) (by rw [hn]; omega))
  rw [this, mk_list]
  simp [mk]
theorem cut_none {l : List Nat} (h : 47 ∉ l) : cutOf (mk l) = mk [] := by
  unfold cutOf
  rw [rfind_none h]
  exact slice_to (k := 0) (Nat.zero_le _)
theorem cut_some {a t : List Nat} (h : 47 ∉ t) : cutOf (mk (a ++ 47 :: t)) = mk (a ++ [47]) := by
  unfold cutOf
  rw [rfind_some h, show (a.length : Int) + 1 = ((a.length + 1 : Nat) : Int) by omega, slice_to (by simp)]
  congr 1
  rw [show a ++ 47 :: t = (a ++ [47]) ++ t by simp, List.take_append_of_le_length (by simp), List.take_of_length_le (by simp)]
theorem mul_slash (n : Nat) : Txt.mul (Str.ofString "/") (n : Int) = mk (List.replicate n 47) := by
  rw [slash_]
  refine Str.ext' (Array.toList_inj.mp ?_)
  rw [mul_one_list, mk_list]
  simp
theorem head_none {l : List Nat} (h : 47 ∉ l) : headOf (mk l) = mk [] := by
  unfold headOf
  rw [cut_none h]
  exact if_neg fun z => z.1 rfl
theorem head_some {a t : List Nat} (h : 47 ∉ t) : (a ++ [47] = List.replicate (a.length + 1) 47 ∧ headOf (mk (a ++ 47 :: t)) = mk (a ++ [47])) ∨ headOf (mk (a ++ 47 :: t)) = mk (rst a) := by
  unfold headOf
  rw [cut_some h, mk_len, List.length_append, List.length_singleton, mul_slash]
  by_cases e : a ++ [47] = List.replicate (a.length + 1) 47
  · refine .inl ⟨e, if_neg fun z => ?_⟩
    have := z.2
    rw [e] at this
    simp at this
  · refine .inr ((if_pos ⟨by omega, ?_⟩).trans ?_)
    · rw [rstrip_mk, rst_slash]
    · rw [bne_iff_ne]
      exact fun q => e (mk_inj q)
theorem rst_all (n : Nat) : rst (List.replicate n 47) = [] := by simp [rst, List.reverse_replicate]
theorem split_last (l : List Nat) : 47 ∉ l ∨ ∃ a t, l = a ++ 47 :: t ∧ 47 ∉ t := by
  induction l with
  | nil => exact .inl (by simp)
  | cons c l ih =>
    rcases ih with h | ⟨a, t, rfl, h⟩
    · by_cases e : c = 47
      · exact .inr ⟨[], l, by simp [e], h⟩
      · exact .inl (by simp [h, Ne.symm e])
    · exact .inr ⟨c :: a, t, rfl, h⟩
theorem head_len (x : Str) : (headOf x).length ≤ x.length := by
  rw [mk_of x]
  rcases split_last x.cps.toList with h | ⟨a, t, e, h⟩
  · rw [head_none h, mk_len, mk_len]; exact Nat.zero_le _
  · rw [e]
    rcases head_some (a := a) h with ⟨_, q⟩ | q
    · rw [q, mk_len, mk_len]; simp
    · rw [q, mk_len, mk_len]
      have := rst_len a
      simp only [List.length_append, List.length_cons]
      omega
/-- the beginnings that end in a word, the longest first; all from behind -/
noncomputable def ancR : List (List Nat) → List (List (List Nat))
  | [] => []
  | t :: r => if t = [] then ancR r else (t :: r) :: ancR r
noncomputable def txtR (r : List (List Nat)) : Str := mk (J r.reverse)
theorem live_mk (l : List Nat) : live (mk l) ↔ rst l ≠ [] := by
  unfold live
  rw [rstrip_mk, mk_len]
  constructor
  · intro h e; rw [e] at h; exact h rfl
  · intro h e
    have : (rst l).length = 0 := by omega
    exact h (List.length_eq_zero_iff.mp this)
theorem outs_ancR : ∀ rv : List (List Nat), (∀ t ∈ rv, 47 ∉ t) → Outs (mk (rst (J rv.reverse))) ((ancR rv).map txtR)
  | [], _ => .nil (by rw [live_mk]; simp [J, rst])
  | t :: r, hf => by
    have ih := outs_ancR r fun t ht => hf t (List.mem_cons_of_mem _ ht)
    have hft := hf t (List.mem_cons_self ..)
    by_cases ht : t = []
    · subst ht
      rw [List.reverse_cons, rst_J_nil]
      exact ih
    · rw [show ancR (t :: r) = (t :: r) :: ancR r from if_neg ht, List.map_cons, List.reverse_cons, rst_J_word _ ht hft]
      have e : txtR (t :: r) = mk (J (r.reverse ++ [t])) := by simp [txtR]
      rw [e]
      have hne : J (r.reverse ++ [t]) ≠ [] := by
        intro q
        have := rst_J_word r.reverse ht hft
        obtain ⟨u, c, rfl⟩ := snoc_of ht
        cases hr : r.reverse with
        | nil => rw [hr] at q; simp [J] at q
        | cons a r' => rw [hr, J_snoc _ (List.cons_ne_nil _ _)] at q; simp at q
      refine .cons ((live_mk _).mpr ?_) ?_
      · rw [rst_J_word _ ht hft]; exact hne
      · cases hr : r.reverse with
        | nil =>
          rw [show r = [] by simpa using hr]
          have : headOf (mk (J ([] ++ [t]))) = mk [] := head_none (by exact hft)
          rw [this]
          exact .nil (by rw [live_mk]; simp [rst])
        | cons a r' =>
          rw [J_snoc _ (List.cons_ne_nil _ _), ← hr]
          rcases head_some (a := J r.reverse) hft with ⟨q, e⟩ | e
          · rw [e]
            have hx : rst (J r.reverse) = [] := by rw [← rst_slash, q, rst_all]
            rw [hx] at ih
            have : (ancR r).map txtR = [] := by
              generalize hY : (ancR r).map txtR = Y at ih
              cases ih with
              | nil _ => rfl
              | cons h _ => rw [live_mk] at h; exact absurd rfl h
            rw [this]
            exact .nil (by rw [live_mk, q, rst_all]; simp)
          · rw [e]; exact ih
/-! the words of a name -/
theorem J_free_inj : ∀ {a b : List (List Nat)}, a ≠ [] → b ≠ [] → (∀ t ∈ a, 47 ∉ t) → (∀ t ∈ b, 47 ∉ t) → J a = J b → a = b := by
  have cut : ∀ {x y u v : List Nat}, 47 ∉ x → 47 ∉ y → x ++ 47 :: u = y ++ 47 :: v → x = y ∧ u = v := by
    intro x
    induction x with
    | nil =>
      intro y u v _ hy e
      cases y with
      | nil => simp at e; exact ⟨rfl, e⟩
      | cons c y => simp at e; exact absurd (by simp [← e.1]) hy
    | cons c x ih =>
      intro y u v hx hy e
      cases y with
      | nil => simp at e; exact absurd (by simp [e.1]) hx
      | cons d y =>
        simp only [List.cons_append, List.cons.injEq] at e
        obtain ⟨h1, h2⟩ := ih (fun q => hx (List.mem_cons_of_mem _ q)) (fun q => hy (List.mem_cons_of_mem _ q)) e.2
        exact ⟨by rw [e.1, h1], h2⟩
  intro a
  induction a with
  | nil => intro b h; exact absurd rfl h
  | cons x a ih =>
    intro b _ hb fa fb e
    cases b with
    | nil => exact absurd rfl hb
    | cons y b =>
      have fx := fa x (List.mem_cons_self ..)
      have fy := fb y (List.mem_cons_self ..)
      cases a with
      | nil =>
        cases b with
        | nil => exact congrArg (fun z => [z]) e
        | cons z b =>
          have e' : x = y ++ 47 :: J (z :: b) := e
          exact absurd (by rw [e']; simp) fx
      | cons w a =>
        cases b with
        | nil =>
          have e' : x ++ 47 :: J (w :: a) = y := e
          exact absurd (by rw [← e']; simp) fy
        | cons z b =>
          obtain ⟨h1, h2⟩ := cut fx fy (show x ++ 47 :: J (w :: a) = y ++ 47 :: J (z :: b) from e)
          rw [h1, ih (List.cons_ne_nil _ _) (List.cons_ne_nil _ _) (fun t ht => fa t (List.mem_cons_of_mem _ ht)) (fun t ht => fb t (List.mem_cons_of_mem _ ht)) h2]
theorem split_ne (x y : Str) : Txt.split x y ≠ [] := by
  unfold Txt.split
  split
  · exact List.cons_ne_nil _ _
  · split
    · exact List.cons_ne_nil _ _
    · rw [StrLaws.partsBetween_eq]
      obtain ⟨p, r, e⟩ := StrLaws.partsFrom_ne x y.length 0 (Builtin.Str.occurrences x y 0 x.length (x.length + 1))
      rw [e]; exact List.cons_ne_nil _ _
theorem map_mk (l : List Str) : l = (l.map fun y => y.cps.toList).map mk := by
  rw [List.map_map]
  conv => lhs; rw [← List.map_id l]
  exact List.map_congr_left fun y _ => mk_of y
theorem split_J {zs : List (List Nat)} (hz : zs ≠ []) (hf : ∀ t ∈ zs, 47 ∉ t) : Txt.split (mk (J zs)) (Str.ofString "/") = zs.map mk := by
  have h1 := StrLaws.join_split (mk (J zs)) (Str.ofString "/")
  have h2 := StrLaws.split_free (mk (J zs)) 47
  rw [← slash_] at h2
  have h3 := split_ne (mk (J zs)) (Str.ofString "/")
  generalize Txt.split (mk (J zs)) (Str.ofString "/") = ys at h1 h2 h3
  rw [map_mk ys, join_mk] at h1
  rw [map_mk ys]
  congr 1
  refine J_free_inj ?_ hz ?_ hf (mk_inj h1)
  · intro e; exact h3 (by simpa using e)
  · intro t ht
    obtain ⟨y, hy, rfl⟩ := List.mem_map.mp ht
    exact h2 y hy
/-- the words that a thing brings into a name -/
noncomputable def toks (th : Thing) : List (List Nat) := if th.bits % 256 = 47 then [[], []] else if th.bits % 256 = 175 then [[33], []] else [uText th.bits]
theorem toks_ne (th : Thing) : toks th ≠ [] := by unfold toks; repeat' split
                                                  all_goals simp
theorem toks_J (th : Thing) : J (toks th) = uText th.bits := by
  unfold toks
  split
  · next h =>
    have h1 : th.bits % 128 = 47 := by omega
    have h2 : ¬ (128 ≤ th.bits % 256) := by omega
    have h3 : th.bits ≠ 127 := by omega
    simp [uText, rep, h1, h2, h3, J]
  · split
    · next h0 h =>
      have h1 : th.bits % 128 = 47 := by omega
      have h2 : (128 ≤ th.bits % 256) := by omega
      have h3 : th.bits ≠ 127 := by omega
      simp [uText, rep, h1, h2, h3, J]
    · rfl
theorem word_of (b : Int) (h47 : b % 256 ≠ 47) (h175 : b % 256 ≠ 175) : 47 ∉ uText b ∧ uText b ≠ [] ∧ SignOf (mk (uText b)) (b % 256).toNat := by
  have hr : 47 ∉ rep b ∧ rep b ≠ [] ∧ BaseWord (rep b) (b % 128).toNat := by
    unfold rep
    split
    · next h => subst h; exact ⟨by decide, by decide, .inr (.inl ⟨by decide, rfl⟩)⟩
    · split
      · next h => exact ⟨by simp; omega, by simp, .inl ⟨by omega, by omega, rfl⟩⟩
      · split
        · next h => exact ⟨by simp, by simp, .inr (.inr (.inl ⟨by omega, rfl⟩))⟩
        · exact ⟨by simp, by simp, .inr (.inr (.inr ⟨by omega, rfl⟩))⟩
  obtain ⟨h1, h2, h3⟩ := hr
  unfold uText
  split
  · exact ⟨by simp [h1], by simp, .inr ⟨_, (b % 128).toNat, rfl, h3, by omega⟩⟩
  · refine ⟨h1, h2, .inl ⟨_, rfl, ?_⟩⟩
    rw [show (b % 256).toNat = (b % 128).toNat by omega]
    exact h3
theorem toks_free (th : Thing) : ∀ t ∈ toks th, 47 ∉ t := by
  unfold toks
  intro t ht
  split at ht
  · simp at ht; subst ht; simp
  · split at ht
    · simp at ht; rcases ht with rfl | rfl <;> simp
    · simp at ht; subst ht; exact (word_of _ ‹_› ‹_›).1
theorem reads_app : ∀ {ys ys' : List Str} {ms ms' : List Nat}, Reads ys ms → Reads ys' ms' → Reads (ys ++ ys') (ms ++ ms')
  | [], ys', [], ms', _, h' => h'
  | [], _, _ :: _, _, h, _ => h.elim
  | y :: ys, ys', ms, ms', h, h' => by
    rcases h with ⟨e, h⟩ | ⟨e, m, r, rfl, hs, h⟩
    · exact .inl ⟨e, reads_app h h'⟩
    · exact .inr ⟨e, m, r ++ ms', rfl, hs, reads_app h h'⟩
theorem reads_snoc : ∀ {ys : List Str} {y : Str} {ms : List Nat}, Reads (ys ++ [y]) ms → (y = Str.ofString "" ∧ Reads ys ms) ∨ (y ≠ Str.ofString "" ∧ ∃ m r, ms = r ++ [m] ∧ Reads ys r)
  | [], y, ms, h => by
    rcases h with ⟨e, h⟩ | ⟨e, m, r, rfl, hs, h⟩
    · exact .inl ⟨e, h⟩
    · refine .inr ⟨e, m, [], ?_, trivial⟩
      cases r with
      | nil => rfl
      | cons _ _ => exact h.elim
  | z :: ys, y, ms, h => by
    rcases h with ⟨e, h⟩ | ⟨e, m, r, rfl, hs, h⟩
    · rcases reads_snoc h with ⟨e', h'⟩ | ⟨e', m', r', rfl, h'⟩
      · exact .inl ⟨e', .inl ⟨e, h'⟩⟩
      · exact .inr ⟨e', m', r', rfl, .inl ⟨e, h'⟩⟩
    · rcases reads_snoc h with ⟨e', h'⟩ | ⟨e', m', r', rfl, h'⟩
      · exact .inl ⟨e', .inr ⟨e, m, _, rfl, hs, h'⟩⟩
      · exact .inr ⟨e', m', m :: r', rfl, .inr ⟨e, m, r', rfl, hs, h'⟩⟩
theorem sign33 : SignOf (mk [33]) 33 := .inl ⟨[33], rfl, .inl ⟨by decide, by decide, rfl⟩⟩
theorem mk_ne {l : List Nat} (h : l ≠ []) : mk l ≠ Str.ofString "" := fun e => h (mk_inj (b := []) (e.trans empty_))
theorem toks_reads (th : Thing) : Reads ((toks th).map mk) (octOf th) := by
  unfold toks octOf
  by_cases h1 : th.bits % 256 = 47
  · rw [if_pos h1, if_neg (by omega), if_pos h1]
    exact .inl ⟨rfl, .inl ⟨rfl, trivial⟩⟩
  · rw [if_neg h1]
    by_cases h2 : th.bits % 256 = 175
    · rw [if_pos h2, if_pos h2]
      exact .inr ⟨mk_ne (by simp), 33, [], rfl, sign33, .inl ⟨rfl, trivial⟩⟩
    · rw [if_neg h2, if_neg h2, if_neg h1]
      obtain ⟨_, b, c⟩ := word_of _ h1 h2
      exact .inr ⟨mk_ne b, _, [], rfl, c, trivial⟩
noncomputable def toksAll (ths : List Thing) : List (List Nat) := ths.flatMap toks
theorem all_free (ths : List Thing) : ∀ t ∈ toksAll ths, 47 ∉ t := fun t ht => by
  obtain ⟨th, _, h⟩ := List.mem_flatMap.mp ht
  exact toks_free th t h
theorem all_reads : ∀ ths : List Thing, Reads ((toksAll ths).map mk) (octs ths)
  | [] => trivial
  | th :: ths => by
    show Reads ((toks th ++ toksAll ths).map mk) (octOf th ++ octs ths)
    rw [List.map_append]
    exact reads_app (toks_reads th) (all_reads ths)
theorem all_J : ∀ ths : List Thing, J (ths.map fun th => uText th.bits) = J (toksAll ths)
  | [] => rfl
  | [th] => by
    show uText th.bits = J (toks th ++ [])
    rw [List.append_nil, toks_J]
  | th :: th' :: ths => by
    show uText th.bits ++ 47 :: J ((th' :: ths).map fun th => uText th.bits) = J (toks th ++ toksAll (th' :: ths))
    rw [all_J (th' :: ths), J_app (toks_ne th) ?_, toks_J]
    show toks th' ++ toksAll ths ≠ []
    simp [toks_ne]
theorem anc_reads : ∀ (rv : List (List Nat)) (ms : List Nat), Reads (rv.reverse.map mk) ms → (ancR rv).length = ms.length ∧ ∀ i r, (ancR rv)[i]? = some r → Reads (r.reverse.map mk) (ms.take (ms.length - i))
  | [], ms, h => by
    cases ms with
    | nil => exact ⟨rfl, fun i r e => nomatch e⟩
    | cons _ _ => exact h.elim
  | t :: rv, ms, h => by
    rw [List.reverse_cons, List.map_append] at h
    have hh := h
    rcases reads_snoc h with ⟨e, h'⟩ | ⟨e, m, r, rfl, h'⟩
    · have ht : t = [] := by
        by_cases q : t = []
        · exact q
        · exact absurd e (mk_ne q)
      rw [show ancR (t :: rv) = ancR rv from if_pos ht]
      exact anc_reads rv ms h'
    · have ht : t ≠ [] := fun q => e (by rw [q]; rfl)
      rw [show ancR (t :: rv) = (t :: rv) :: ancR rv from if_neg ht]
      obtain ⟨h1, h2⟩ := anc_reads rv r h'
      refine ⟨by simp [h1], fun i q hq => ?_⟩
      cases i with
      | zero =>
        obtain rfl : t :: rv = q := Option.some.inj hq
        rw [Nat.sub_zero, List.take_length, List.reverse_cons, List.map_append]
        exact hh
      | succ i =>
        have := h2 i q hq
        rw [List.length_append, List.length_singleton, show r.length + 1 - (i + 1) = r.length - i by omega, List.take_append_of_le_length (by omega)]
        exact this
theorem anc_mem : ∀ (rv r : List (List Nat)), r ∈ ancR rv → ∃ pre t r', rv = pre ++ r ∧ r = t :: r' ∧ t ≠ []
  | [], r, h => nomatch h
  | t :: rv, r, h => by
    by_cases ht : t = []
    · rw [show ancR (t :: rv) = ancR rv from if_pos ht] at h
      obtain ⟨pre, u, r', e, e1, e2⟩ := anc_mem rv r h
      exact ⟨t :: pre, u, r', by rw [e]; rfl, e1, e2⟩
    · rw [show ancR (t :: rv) = (t :: rv) :: ancR rv from if_neg ht] at h
      rcases List.mem_cons.mp h with rfl | h
      · exact ⟨[], t, rv, rfl, rfl, ht⟩
      · obtain ⟨pre, u, r', e, e1, e2⟩ := anc_mem rv r h
        exact ⟨t :: pre, u, r', by rw [e]; rfl, e1, e2⟩
theorem u_len (b : Int) : (uText b).length ≤ 3 := by
  unfold uText rep
  repeat' split
  all_goals simp
theorem J_len : ∀ zs : List (List Nat), (J zs).length ≤ (zs.map fun z => z.length + 1).sum
  | [] => Nat.le_refl _
  | [x] => by simp [J]
  | x :: y :: r => by
    have := J_len (y :: r)
    rw [List.map_cons, List.sum_cons]
    simp only [J, List.length_append, List.length_cons]
    omega
structure RowLaw (ths : List Thing) (path : Str) (all : List Str) : Prop where
  outs : Outs (Txt.rstripChars path (Str.ofString "/")) all
  len : path.length ≤ 30
  cnt : all.length = (octs ths).length
  pre : ∀ y ∈ all, Txt.slice path none (some (y.length : Int)) = y ∧ Txt.slice y (some (-1)) none ≠ Str.ofString "/" ∧ y.length ≤ 30 ∧ (Txt.split y (Str.ofString "/")).length ≤ 31
  reads : ∀ i y, all[i]? = some y → Reads (Txt.split y (Str.ofString "/")) ((octs ths).take ((octs ths).length - i))
theorem J_take_len (pre : List (List Nat)) {r : List (List Nat)} (hr : r ≠ []) : ∃ u, J (r ++ pre) = J r ++ u := by
  cases pre with
  | nil => exact ⟨[], by simp⟩
  | cons a pre => exact ⟨47 :: J (a :: pre), J_app hr (List.cons_ne_nil _ _)⟩
theorem free_len : ∀ zs : List (List Nat), zs.length ≤ (J zs).length + 1
  | [] => by simp
  | [x] => by simp
  | x :: y :: r => by
    have := free_len (y :: r)
    simp only [J, List.length_append, List.length_cons] at this ⊢
    omega
theorem row_law (ths : List Thing) (h6 : ths.length ≤ 6) : ∃ all, RowLaw ths (Txt.join (Str.ofString "/") (ths.map fun th => mk (uText th.bits))) all := by
  have e0 : Txt.join (Str.ofString "/") (ths.map fun th => mk (uText th.bits)) = mk (J (toksAll ths)) := by
    rw [txtJoin, show (ths.map fun th => mk (uText th.bits)) = (ths.map fun th => uText th.bits).map mk by rw [List.map_map]; rfl, join_mk, all_J]
  have hf : ∀ t ∈ (toksAll ths).reverse, 47 ∉ t := fun t ht => all_free ths t (List.mem_reverse.mp ht)
  have hlen : (J (toksAll ths)).length ≤ 30 := by
    rw [← all_J]
    refine Nat.le_trans (J_len _) ?_
    rw [List.map_map]
    have : ∀ l : List Thing, (l.map ((fun z : List Nat => z.length + 1) ∘ fun th => uText th.bits)).sum ≤ l.length * 4 := by
      intro l
      induction l with
      | nil => exact Nat.le_refl _
      | cons th l ih =>
        have := u_len th.bits
        simp only [List.map_cons, List.sum_cons, Function.comp, List.length_cons] at ih ⊢
        omega
    have := this ths
    omega
  have hreads := all_reads ths
  rw [← List.reverse_reverse (toksAll ths)] at hreads
  obtain ⟨hc, hr⟩ := anc_reads _ _ hreads
  rw [e0]
  have hmem : ∀ y ∈ (ancR (toksAll ths).reverse).map txtR, ∃ pre t r', (toksAll ths) = (t :: r').reverse ++ pre ∧ t ≠ [] ∧ 47 ∉ t ∧ (∀ u ∈ (t :: r').reverse, 47 ∉ u) ∧ y = mk (J (t :: r').reverse) := by
    intro y hy
    obtain ⟨r, hm, rfl⟩ := List.mem_map.mp hy
    obtain ⟨pre, t, r', e, rfl, ht⟩ := anc_mem _ _ hm
    have e' : toksAll ths = (t :: r').reverse ++ pre.reverse := by
      have := congrArg List.reverse e
      rw [List.reverse_reverse, List.reverse_append] at this
      exact this
    refine ⟨pre.reverse, t, r', e', ht, hf t (by rw [e]; simp), fun u hu => all_free ths u (by rw [e']; exact List.mem_append_left _ hu), rfl⟩
  have hsplit : ∀ y ∈ (ancR (toksAll ths).reverse).map txtR, y.length ≤ 30 ∧ (Txt.split y (Str.ofString "/")).length ≤ 31 := by
    intro y hy
    obtain ⟨pre, t, r', e, ht, _, hu, rfl⟩ := hmem y hy
    obtain ⟨u, eu⟩ := J_take_len pre (r := (t :: r').reverse) (by simp)
    rw [e, eu, List.length_append] at hlen
    refine ⟨by rw [mk_len]; omega, ?_⟩
    rw [split_J (by simp) hu, List.length_map]
    have := free_len (t :: r').reverse
    omega
  refine ⟨(ancR (toksAll ths).reverse).map txtR, ?_, by rw [mk_len]; exact hlen, by rw [List.length_map, hc], ?_, ?_⟩
  · rw [rstrip_mk]
    have := outs_ancR (toksAll ths).reverse hf
    rw [List.reverse_reverse] at this
    exact this
  · intro y hy
    obtain ⟨h3, h4⟩ := hsplit y hy
    obtain ⟨pre, t, r', e, ht, hft, hu, rfl⟩ := hmem y hy
    obtain ⟨u, eu⟩ := J_take_len pre (r := (t :: r').reverse) (by simp)
    refine ⟨?_, ?_, h3, h4⟩
    · rw [e, eu, mk_len, slice_to (by simp), List.take_append_of_le_length (Nat.le_refl _), List.take_length]
    · obtain ⟨v, c, rfl⟩ := snoc_of ht
      have : ∃ l, J ((v ++ [c]) :: r').reverse = l ++ [c] := by
        rw [List.reverse_cons]
        cases hq : r'.reverse with
        | nil => exact ⟨v, rfl⟩
        | cons a q => rw [J_snoc _ (List.cons_ne_nil _ _)]; exact ⟨J (a :: q) ++ 47 :: v, by simp⟩
      obtain ⟨l, hl⟩ := this
      rw [hl, slice_last, slash_]
      intro q
      have : [c] = [47] := mk_inj (b := [47]) q
      exact hft (by simp [List.cons.inj this])
  · intro i y hy
    rw [List.getElem?_map] at hy
    obtain ⟨r, hr1, rfl⟩ := Option.map_eq_some_iff.mp hy
    have := hr i r hr1
    have hm : txtR r ∈ (ancR (toksAll ths).reverse).map txtR := List.mem_map_of_mem (List.mem_of_getElem? hr1)
    obtain ⟨pre, t, r', e, rfl, ht⟩ := anc_mem _ _ (List.mem_of_getElem? hr1)
    have hu : ∀ u ∈ (t :: r').reverse, 47 ∉ u := fun u hu => hf u (by rw [e]; exact List.mem_append_right _ (List.mem_reverse.mp hu))
    show Reads (Txt.split (mk (J (t :: r').reverse)) _) _
    rw [split_J (by simp) hu]
    exact this
end Mine

namespace Mine
section
variable {prog : Program} {w : World} {A : Around} {E : Value → Shared → Prop} {env : Env} {v : Str} {body : List Stmt} {Q : Flow → Shared → Prop} {I : Addr}
/-- the turns of a for loop, by an invariant -/
theorem owit_ind (J : Nat → Shared → Prop) (n : Nat)
    (turn : ∀ k i s, i < n → J i s → (∀ s', J (i + 1) s' → OwitRest prog w A E env v body Q I k s') → OwitRest prog w A E env v body Q I (k + 1) s)
    (fin : ∀ k s, J n s → OwitRest prog w A E env v body Q I (k + 1) s) {f : Nat} (hf : n < f) {s : Shared} (h0 : J 0 s) : OwitRest prog w A E env v body Q I f s := by
  have key : ∀ r i f s, i + r = n → r < f → J i s → OwitRest prog w A E env v body Q I f s := by
    intro r
    induction r with
    | zero =>
      intro i f s hi hf hJ
      obtain ⟨k, rfl⟩ : ∃ k, f = k + 1 := ⟨f - 1, by omega⟩
      exact fin k s (by rw [← hi]; exact hJ)
    | succ r ih =>
      intro i f s hi hf hJ
      obtain ⟨k, rfl⟩ : ∃ k, f = k + 1 := ⟨f - 1, by omega⟩
      exact turn k i s (by omega) hJ fun s' h' => ih (i + 1) k s' (by omega) (by omega) h'
  exact key n 0 f s (Nat.zero_add n) hf h0
end
/-- these references are the rows -/
noncomputable def RowRefs (at_ : Addr → Obj → Prop) : List Value → List (List Thing) → Prop
  | [], [] => True
  | v :: vs, row :: rows => (∃ a xs c, v = .ref a ∧ at_ a (listOf xs.toArray c) ∧ Things xs row ∧ row.length ≤ 6) ∧ RowRefs at_ vs rows
  | _, _ => False
theorem RowRefs.mono {p q : Addr → Obj → Prop} (h : ∀ a o, p a o → q a o) : ∀ {vs : List Value} {rows : List (List Thing)}, RowRefs p vs rows → RowRefs q vs rows
  | [], [], _ => trivial
  | _ :: _, _ :: _, x => by
    obtain ⟨⟨a, xs, c, e, e1, e2⟩, r⟩ := x
    exact ⟨⟨a, xs, c, e, h _ _ e1, e2⟩, RowRefs.mono h r⟩
  | [], _ :: _, x => x.elim
  | _ :: _, [], x => x.elim
theorem RowRefs.snoc {p : Addr → Obj → Prop} {a : Addr} {xs : List Value} {c : Nat} {row : List Thing} (h : p a (listOf xs.toArray c)) (ht : Things xs row) (hr : row.length ≤ 6) : ∀ {vs : List Value} {rows : List (List Thing)}, RowRefs p vs rows → RowRefs p (vs ++ [.ref a]) (rows ++ [row])
  | [], [], _ => ⟨⟨a, xs, c, rfl, h, ht, hr⟩, trivial⟩
  | _ :: _, _ :: _, x => ⟨x.1, RowRefs.snoc h ht hr x.2⟩
  | [], _ :: _, x => x.elim
  | _ :: _, [], x => x.elim
theorem RowRefs.length {p : Addr → Obj → Prop} : ∀ {vs : List Value} {rows : List (List Thing)}, RowRefs p vs rows → vs.length = rows.length
  | [], [], _ => rfl
  | _ :: _, _ :: _, x => congrArg (· + 1) x.2.length
  | [], _ :: _, x => x.elim
  | _ :: _, [], x => x.elim
section
variable {prog : Program} {w : World} {A : Around} {E : Value → Shared → Prop} {s : Shared} {h₀ : Heap} {L R r : Addr} {news : List (Addr × Obj)} {init : List Value} {cR : Nat}
theorem row_last {value slice : Expr} {u : Tok} {Q : Value → Shared → Prop} (N : News h₀ L s.heap news) (hm : (R, listOf (init ++ [Value.ref r]).toArray cR) ∈ news) (h : Q (.ref r) s)
    (hs : subscripted slice false (.ref R) (.int (-1) u) = operate [.ref R, .int (-1) u] (getItem (.ref R) (.int (-1) u)) := by with_unfolding_all rfl) (hg : ∀ r, letTemporaryGo value (.ref R) r = pure () := by intro _; with_unfolding_all rfl) :
    wpAny (model prog w) A (subscriptTail value slice (.ref R) (.int (-1) u)) Q E s := by
  have hl : s.heap.IsList R (init ++ [Value.ref r]).toArray := ⟨_, N.get hm, rfl, _, rfl⟩
  refine subscriptTail_builtin hl.typeIs slot_list_getitem.lookup (wpAny_getItem_list_neg (x := .ref r) hl (by decide) (by simp; omega) (by decide) ?_ h) hs hg
  rw [List.getElem?_toArray, List.size_toArray, List.length_append]
  rw [show (-1 + ((init.length + [Value.ref r].length : Nat) : Int)).toNat = init.length by simp; omega, List.getElem?_append_right (Nat.le_refl _), Nat.sub_self]
  rfl
theorem pick_upto {xs : List Value} {k : Int} (h : 0 ≤ k) : slicePick xs.toArray none (some k) none = (xs.take k.toNat).toArray := by
  have e : sliceBounds none (some k) none xs.toArray.size = (((0 : Nat) : Int), ((min k.toNat xs.toArray.size : Nat) : Int), 1) := by
    simp only [sliceBounds, Option.getD_none, show (1 : Int) > 0 by decide, if_true, if_neg (show ¬ (k < 0) by omega)]
    congr 1
    congr 1
    omega
  rw [kmk_pick_nat _ e, List.drop_zero, Nat.sub_zero, List.size_toArray, kmk_take_min]
theorem row_cut {m : Str → Option Value} {value slice : Expr} {xs : List Value} {c : Nat} {k : Int} {u : Tok} {Q : Value → Shared → Prop} (F : Fr h₀ L s.heap m) (N : News h₀ L s.heap news) (hm : (r, listOf xs.toArray c) ∈ news) (hk : 0 ≤ k) (hx : xs.length ≤ 1000)
    (h : ∀ D h', Fr h₀ L h' m → News h₀ L h' ((D, listOf (xs.take k.toNat).toArray 0) :: news) → (∀ p ∈ news, p.1 < D) → Q (.ref D) { s with heap := h' })
    (hs : subscripted slice false (.ref r) (.ref s.heap.objs.size) = operate [.ref s.heap.objs.size, .ref r] (getItem (.ref r) (.ref s.heap.objs.size)) := by with_unfolding_all rfl) :
    wpAny (model prog w) A (subscriptTail value slice (.ref r) (.ref s.heap.objs.size)) Q E { s with heap := s.heap.push { cls := .type "slice", data := .fields #[.none, .int k u, .none] } } := by
  have hl : s.heap.IsList r xs.toArray := ⟨_, N.get hm, rfl, _, rfl⟩
  have hT : Shared.TypeIs { s with heap := s.heap.push { cls := .type "slice", data := .fields #[.none, .int k u, .none] } } (.ref r) "list" := Heap.IsList.typeIs (s := { s with heap := s.heap.push { cls := .type "slice", data := .fields #[.none, .int k u, .none] } }) (hl.push _)
  unfold subscriptTail
  refine wpAny_bind ?_
  rw [getitemInPython_of_ne hT.not_modules]
  refine wpAny_bind (wpAny_specialOf hT list_getitem_lookup ?_)
  refine wpAny_pure (wpAny_bind ?_)
  rw [hs]
  refine wpAny_operating (wpAny_getItem_list_slice (hl.push _) (Heap.IsSliceOf.new ..) .none (IsPart.int _ _) .none (by simp) ?_ (by rw [List.size_toArray]; show _ ≤ 16777216; omega))
  refine wpAny_bind (wpAny_letTemporaryGo (wpAny_pure ?_))
  rw [pick_upto hk]
  have N1 := News.push (F.push { cls := .type "slice", data := .fields #[.none, .int k u, .none] }) (N.grown fun _ _ e => Heap.get?_push_of_some _ e) (listOf (xs.take k.toNat).toArray 0)
  exact h _ _ ((F.push _).push _) N1 fun p hp => Nat.lt_of_lt_of_le (Heap.lt_size (N p hp).1) (by rw [Heap.size_push]; exact Nat.le_succ _)
theorem row_append {m : Str → Option Value} {acc : Array Value} {c : Nat} {x : Value} {g : Obj → List (Addr × Obj)} {Q : Value → Shared → Prop} (F : Fr h₀ L s.heap m) (N : News h₀ L s.heap news) (U : UpdF R (listOf acc c) news g) (hsz : acc.size ≤ 1000)
    (h : ∀ h', Fr h₀ L h' m → News h₀ L h' (g (listOf (acc.push x) (c + 1))) → Q .none { s with heap := h' }) : wpAny (model prog w) A (call (.builtin "list.append") [.ref R, x]) Q E s := by
  obtain ⟨pre, post, hsp, hg, ha, hb⟩ := U.split
  have z := N (R, listOf acc c) (by rw [hsp]; exact List.mem_append_right _ (.head _))
  exact append_at (hsz := by show _ ≤ 16777216; omega) z.1 fun h' hs ho' => h h' (F.change hs z.2.1 z.2.2) (hg _ ▸ (show News h₀ L s.heap (pre ++ (R, listOf acc c) :: post) from hsp ▸ N).setIn ha hb hs ho')
theorem row_len {xs : List Value} {c : Nat} {Q : Value → Shared → Prop} (N : News h₀ L s.heap news) (hm : (r, listOf xs.toArray c) ∈ news) (hx : xs.length ≤ 1000) (h : ∀ t k, Q (.int (xs.length : Int) t) { s with toks := k }) :
    wpAny (model prog w) A (call (.builtin "len") [.ref r]) Q E s :=
  call_len_list (items := xs.toArray) ⟨_, N.get hm, rfl, _, rfl⟩ (by rw [List.size_toArray]; omega) (by rw [List.size_toArray]; exact h _ _)
end
theorem ints_get {vs : List Value} {ns : List Int} (h : IntsAre vs ns) : ∀ {i : Nat}, i < vs.length → ∃ n t, vs[i]? = some (.int n t) := by
  induction h with
  | nil => intro i hi; exact absurd hi (Nat.not_lt_zero _)
  | cons n t _ ih =>
    intro i hi
    cases i with
    | zero => exact ⟨_, _, rfl⟩
    | succ i => exact ih (by simpa using hi)
theorem Things.take : ∀ {vs : List Value} {ths : List Thing} (k : Nat), Things vs ths → Things (vs.take k) (ths.take k)
  | _ :: _, _ :: _, 0, _ => trivial
  | [], [], 0, _ => trivial
  | [], [], _ + 1, _ => trivial
  | _ :: _, _ :: _, k + 1, h => ⟨h.1, Things.take k h.2⟩
  | [], _ :: _, _, h => h.elim
  | _ :: _, [], _, h => h.elim
theorem Things.snoc {v : Value} {th : Thing} (hv : IsThing v th) : ∀ {vs : List Value} {ths : List Thing}, Things vs ths → Things (vs ++ [v]) (ths ++ [th])
  | [], [], _ => ⟨hv, trivial⟩
  | _ :: _, _ :: _, h => ⟨h.1, Things.snoc hv h.2⟩
  | [], _ :: _, h => h.elim
  | _ :: _, [], h => h.elim
theorem fr_rows {g h : Heap} {L : Addr} {m b : Str → Option Value} (F : Fr g L h m) (e : ∀ y, y ≠ Str.ofString "thing" → y ≠ Str.ofString "number" → m y = b y) :
    Fr g L h (fun y => if y = Str.ofString "thing" then m (Str.ofString "thing") else if y = Str.ofString "number" then m (Str.ofString "number") else b y) :=
  frCongr F fun y => by
    by_cases h1 : y = Str.ofString "thing"
    · rw [if_pos h1, h1]
    · by_cases h2 : y = Str.ofString "number"
      · rw [if_neg h1, if_pos h2, h2]
      · rw [if_neg h1, if_neg h2]; exact e y h1 h2
structure RowSt (g : Heap) (L R D I sl : Addr) (ws : List Value) (s₀ : Shared) (i : Nat) (s : Shared) : Prop where
  ex : ∃ h tk oI vn vt init r xs cR cr old rows row, s = { s₀ with heap := h, toks := tk } ∧
    Fr g L h (fun y => if y = Str.ofString "thing" then vt else if y = Str.ofString "number" then vn else if y = Str.ofString "rows" then some (.ref R) else List.lookup y [(Str.ofString "script", Value.ref sl)].reverse) ∧
    News g L h ((I, oI) :: (D, listOf ws.toArray 0) :: (R, listOf (init ++ [.ref r]).toArray cR) :: (r, listOf xs.toArray cr) :: old) ∧ LitIt oI D i ∧
    RowRefs (fun a o => (a, o) ∈ old) init rows ∧ Things xs row ∧ row.length ≤ 6 ∧ init.length ≤ i ∧ (D ≠ I ∧ R ≠ I ∧ r ≠ I ∧ R ≠ D ∧ r ≠ D ∧ r ≠ R) ∧ (∀ p ∈ old, p.1 ≠ I) ∧ (∀ p ∈ old, p.1 ≠ R) ∧ (∀ p ∈ old, p.1 ≠ r)
theorem thing1 {v : Value} {th : Thing} (h : IsThing v th) : Things ([] ++ [v]) [th] := ⟨h, trivial⟩
theorem isSign (c : Nat) (t : Tok) : IsThing (.str ⟨#[c]⟩ t) (.sign c) := ⟨t, rfl⟩
theorem isInt (n : Int) (t : Tok) : IsThing (.int n t) (.int n) := ⟨t, rfl⟩
theorem RowSt.new {g h : Heap} {L R D I sl r r' : Addr} {ws init xs X : List Value} {s₀ : Shared} {i tk cR cr c' : Nat} {vn vt : Option Value} {oI : Obj} {old : List (Addr × Obj)} {rows : List (List Thing)} {row row' : List Thing}
    (F : Fr g L h (fun y => if y = Str.ofString "thing" then vt else if y = Str.ofString "number" then vn else if y = Str.ofString "rows" then some (.ref R) else List.lookup y [(Str.ofString "script", Value.ref sl)].reverse))
    (N : News g L h ((r', listOf X.toArray c') :: (I, oI) :: (D, listOf ws.toArray 0) :: (R, listOf (init ++ [Value.ref r] ++ [Value.ref r']).toArray cR) :: (r, listOf xs.toArray cr) :: old)) (hit : LitIt oI D i)
    (hrs : RowRefs (fun a o => (a, o) ∈ old) init rows) (hth : Things xs row) (hlen : row.length ≤ 6) (hX : Things X row') (hX6 : row'.length ≤ 6) (hil : init.length + 1 ≤ i)
    (n1 : D ≠ I) (n2 : R ≠ I) (n3 : r ≠ I) (n4 : R ≠ D) (n5 : r ≠ D) (n6 : r ≠ R) (o1 : ∀ p ∈ old, p.1 ≠ I) (o2 : ∀ p ∈ old, p.1 ≠ R) (o3 : ∀ p ∈ old, p.1 ≠ r) (l : I < r' ∧ D < r' ∧ R < r' ∧ r < r' ∧ AllLt r' old) :
    RowSt g L R D I sl ws s₀ i { s₀ with heap := h, toks := tk } := by
  obtain ⟨l1, l2, l3, l4, l5⟩ := l
  refine ⟨h, tk, oI, vn, vt, init ++ [.ref r], r', X, cR, c', (r, listOf xs.toArray cr) :: old, rows ++ [row], row', rfl, F, fun p hp => N p ?_, hit, RowRefs.snoc (c := cr) (.head _) hth hlen (hrs.mono fun _ _ q => .tail _ q), hX, hX6, by rw [List.length_append]; exact hil,
    ⟨n1, n2, Ne.symm (Nat.ne_of_lt l1), n4, Ne.symm (Nat.ne_of_lt l2), Ne.symm (Nat.ne_of_lt l3)⟩, fun p hp => ?_, fun p hp => ?_, fun p hp => ?_⟩
  · simp only [List.mem_cons] at hp ⊢
    rcases hp with q | q | q | q | q | q <;> simp [q]
  · rcases List.mem_cons.mp hp with rfl | q
    · exact n3
    · exact o1 p q
  · rcases List.mem_cons.mp hp with rfl | q
    · exact n6
    · exact o2 p q
  · rcases List.mem_cons.mp hp with rfl | q
    · exact Nat.ne_of_lt l4
    · exact Nat.ne_of_lt (kst_ltOf l5 p q)
theorem RowSt.more {g h : Heap} {L R D I sl r : Addr} {ws init X : List Value} {s₀ : Shared} {i tk cR cr : Nat} {vn vt : Option Value} {oI : Obj} {old : List (Addr × Obj)} {rows : List (List Thing)} {row' : List Thing}
    (F : Fr g L h (fun y => if y = Str.ofString "thing" then vt else if y = Str.ofString "number" then vn else if y = Str.ofString "rows" then some (.ref R) else List.lookup y [(Str.ofString "script", Value.ref sl)].reverse))
    (N : News g L h ((I, oI) :: (D, listOf ws.toArray 0) :: (R, listOf (init ++ [Value.ref r]).toArray cR) :: (r, listOf X.toArray cr) :: old)) (hit : LitIt oI D i)
    (hrs : RowRefs (fun a o => (a, o) ∈ old) init rows) (hX : Things X row') (hX6 : row'.length ≤ 6) (hil : init.length ≤ i)
    (n1 : D ≠ I) (n2 : R ≠ I) (n3 : r ≠ I) (n4 : R ≠ D) (n5 : r ≠ D) (n6 : r ≠ R) (o1 : ∀ p ∈ old, p.1 ≠ I) (o2 : ∀ p ∈ old, p.1 ≠ R) (o3 : ∀ p ∈ old, p.1 ≠ r) :
    RowSt g L R D I sl ws s₀ i { s₀ with heap := h, toks := tk } :=
  ⟨h, tk, oI, vn, vt, init, r, X, cR, cr, old, rows, row', rfl, F, N, hit, hrs, hX, hX6, hil, ⟨n1, n2, n3, n4, n5, n6⟩, o1, o2, o3⟩
local macro_rules | `(tactic| walk_at "exec For Name BinOp cons nil") => `(tactic| (k_here; k_dflt (refine' owit_for ?_; k_whole)))
local macro_rules | `(tactic| k_all) => `(tactic| with_reducible assumption)
local macro_rules | `(tactic| walk_at "pyIter ref") => `(tactic| ((with_reducible show wpAny _ _ (pyIter (Value.ref _)) (OwitAt _ _ _ _ _ _ _ _) _ _); k_here; k_dflt (refine' lst_iterN ?F ?N ?h ?_; (case F => k_asm); (case N => k_asm); (case h => exact News.get (by k_asm) (by k_mem)); intro I' h' o' F' N' l1 hi'; (try k_lt l1))))
local macro_rules | `(tactic| walk_at "pyNext ref") => `(tactic| ((with_reducible show wpAny _ _ (pyNext (Value.ref _)) (OwitTurn _ _ _ _ _ _ _ _ _) _ _); k_here; k_dflt (first
  | (refine' lst_nextN ?F ?N ?U ?i ?t ?x ?_; (case F => k_asm); (case N => k_asm); (case U => k_updF); (case i => k_asm); (case t => exact News.get (by k_asm) (by k_mem)); (case x => assumption); intro h' o' F' N' hi'; (try dsimp only at N'))
  | (refine' lst_doneN rfl ?F ?N ?U ?D ?i ?t ?x ?_; (case F => k_asm); (case N => k_asm); (case U => k_updF); (case D => repeat (first | exact DropAt.here | refine' DropAt.there ?_)); (case i => k_asm); (case t => exact News.get (by k_asm) (by k_mem)); (case x => assumption); intro h' F' N'; (try dsimp only at N')))))
local macro_rules | `(tactic| walk_at "subscriptTail") => `(tactic| ((with_reducible show wpAny _ _ (subscriptTail _ _ (Value.ref _) (Value.int (-1) _)) _ _ _); k_here; k_dflt (refine' row_last ?N ?m ?_; (case N => k_asm); (case m => k_mem); k_whole)))
local macro_rules | `(tactic| walk_at "subscriptTail") => `(tactic| ((with_reducible show wpAny _ _ (subscriptTail _ (Expr.Slice none _ none _) (Value.ref _) (Value.ref _)) _ _ _); k_here; k_dflt (refine' row_cut ?F ?N ?m ?k ?x ?_; (case F => k_asm); (case N => k_asm); (case m => k_mem); (case k => first | assumption | omega); (case x => omega); intro D' h' F' N' l1; (try k_lt l1))))
local macro_rules | `(tactic| walk_at "call builtin:list.append") => `(tactic| ((with_reducible show wpAny _ _ (call (Value.builtin _) [Value.ref _, _]) _ _ _); k_here; k_dflt (refine' row_append ?F ?N ?U ?x ?_; (case F => k_asm); (case N => k_asm); (case U => k_updF); (case x => (simp only [List.size_toArray, List.length_append, List.length_cons, List.length_nil]; omega)); intro h' F' N'; (try dsimp only at N'))))
local macro_rules | `(tactic| walk_at "call builtin:len") => `(tactic| ((with_reducible show wpAny _ _ (call (Value.builtin "len") [Value.ref _]) _ _ _); k_here; k_dflt (refine' row_len ?N ?m ?x ?_; (case N => k_asm); (case m => k_mem); (case x => omega); intro t' k'; k_whole)))
local macro_rules | `(tactic| walk_at "OwitRest") => `(tactic| (refine stop ?_))
section
variable {w : World} {dp un : Nat} {fr : Option (List Env)} {gd : Option (List Code)} {s : Shared} {Q E : Value → Shared → Prop}
theorem rows_call {sl : Addr} {vs : List Value} {ns : List Int} (hL : s.heap.IsList sl vs.toArray) (hI : IntsAre vs ns) (hn : ns.length ≤ 63) (G : Gnd w s.heap) (hdp : dp + 20 < recursionLimit) (hu : un + 200 < cLine)
    (k : ∀ R h' tk vals c rows, (∀ b o, s.heap.get? b = some o → h'.get? b = some o) → h'.get? R = some (listOf (vals : List Value).toArray c) → s.heap.get? R = none → RowRefs (fun a o => h'.get? a = some o ∧ s.heap.get? a = none ∧ a ≠ R) vals rows → rows.length ≤ 20 → Q (.ref R) { s with heap := h', toks := tk }) :
    wpAny (model PP w) (Ar dp un fr gd) (call (.ref 196) [.ref sl]) Q E s := by
  obtain ⟨X, mean, mg, mb, T⟩ := G
  refine wpAny_call ?_
  (refine' enter (binds := [(Str.ofString "script", .ref sl)]) X T ?k6 ?k7 ?k8 ?k9 ?kB ?_ ?c2 ?c3 ?c4 ?c5; (case k6 => k_is); (case k7 => k_is); (case k8 => (first | omega | (dsimp only [Ar]; omega) | (simp only [Around.in1_depth] at *; omega))); (case k9 => exact BindsTo.of_eq rfl); (case kB => exact locs rfl); (case c2 => exact rfl); (case c3 => exact rfl); (case c4 => exact rfl); (case c5 => decide); intro L h₁ hL F N)
  k_steps
  show OwitRest _ _ _ _ _ _ _ _ _ _ _
  rename_i r₀ g0 l1a R₀ g1 l1b g2 D1 ws1 g3 hI1 hC1 hL1 l1c D2 g4 l1d D ws g5 F5 N5 hI2 l1e I g6 oI F6 N6 hit l1f
  have hwl : ws.length = (ns.take 12).length + 7 := by rw [hI2.length, List.length_append]; rfl
  have hwn : ws.length ≤ 19 := by rw [hwl, List.length_take]; omega
  refine owit_ind (RowSt s.heap L R₀ D I sl ws s) ws.length ?turn ?fin (by omega) ?start
  case start =>
    refine ⟨g6, _, oI, none, none, [], r₀, [], 0, 0, [], [], [], rfl, frCongr F6 (fun y => ?_), (fun p hp => N6 p ?_), hit, trivial, trivial, Nat.zero_le _, Nat.le_refl _, ⟨?_, ?_, ?_, ?_, ?_, ?_⟩, (fun p hp => nomatch hp), (fun p hp => nomatch hp), (fun p hp => nomatch hp)⟩
    · rcases Decidable.em (y = Str.ofString "thing") with q | q
      · rw [if_pos q]; subst q; rfl
      rcases Decidable.em (y = Str.ofString "number") with p | p
      · rw [if_neg q, if_pos p]; subst p; rfl
      · rw [if_neg q, if_neg p]
    · simp only [List.nil_append, List.mem_cons, List.not_mem_nil, or_false] at hp ⊢
      rcases hp with q | q | q | q <;> simp [q]
    all_goals (refine (?_ : @Ne Nat _ _); omega)
  case fin =>
    rintro kf s' ⟨h, tk', oI', vn, vt, init, r, xs, cR, cr, old, rows, row, rfl, F, N, hit', hrs, hth, hlen, hil, ⟨n1, n2, n3, n4, n5, n6⟩, oI1, oR1, or1⟩
    clear F5 N5 F6 N6 hit
    have hix : ws.toArray[ws.length]? = none := by rw [Array.getElem?_eq_none]; rw [List.size_toArray]; omega
    refine OwitRest.succ ?_
    k_steps
    rename Fr s.heap L _ _ => F3
    rename News s.heap L _ _ => N3
    have z := N3 (R₀, _) (.tail _ (.head _))
    have zr := N3 (r, _) (.tail _ (.tail _ (.head _)))
    refine k _ _ _ _ _ (rows ++ [row]) F3.keep z.1 z.2.2 (RowRefs.snoc (c := cr) ⟨zr.1, zr.2.2, n6⟩ hth hlen (hrs.mono fun a o q => ⟨(N3 (a, o) (.tail _ (.tail _ (.tail _ q)))).1, (N3 (a, o) (.tail _ (.tail _ (.tail _ q)))).2.2, oR1 _ q⟩)) ?_
    have := hrs.length
    rw [List.length_append, List.length_singleton]; omega
  case turn =>
    rintro k i s' hi ⟨h, tk', oI', vn, vt, init, r, xs, cR, cr, old, rows, row, rfl, F, N, hit', hrs, hth, hlen, hil, ⟨n1, n2, n3, n4, n5, n6⟩, oI1, oR1, or1⟩ ih
    clear F5 N5 F6 N6 hit
    obtain ⟨num, tn, hnum⟩ : ∃ num tn, ws[i]? = some (.int num tn) := ints_get hI2 hi
    have hxl := hth.length
    have hxs : xs.length ≤ 6 := by omega
    have n1' := Ne.symm n1
    have n2' := Ne.symm n2
    have n3' := Ne.symm n3
    have n4' := Ne.symm n4
    have n5' := Ne.symm n5
    have n6' := Ne.symm n6
    have hini : init.length ≤ 19 := by omega
    have hz2 : 0 ≤ (num.fdiv 4).fmod ((xs.length : Int) + 1) := Int.fmod_nonneg_of_pos _ (by omega)
    have hz : ((xs.length : Int) + 1) ≠ 0 := by omega
    have hix : ws.toArray[i]? = some (.int num tn) := by rw [List.getElem?_toArray]; exact hnum
    refine OwitRest.succ ?_
    k_steps
    all_goals (show OwitRest _ _ _ _ _ _ _ _ _ _ _)
    all_goals (rename Fr s.heap L _ _ => F3)
    all_goals (rename News s.heap L _ _ => N3)
    all_goals (rename LitIt _ _ (i + 1) => hi3)
    all_goals (try rw [List.push_toArray] at N3)
    all_goals (have F4 := fr_rows F3 (b := fun y => if y = Str.ofString "rows" then some (Value.ref R₀) else List.lookup y [(Str.ofString "script", Value.ref sl)].reverse) (fun y q1 q2 => by simp only [q1, q2, if_false]))
    all_goals (first
      | (refine ih _ (RowSt.new F4 N3 hi3 hrs hth hlen (hth.take _) (by rw [List.length_take]; omega) (by omega) n1 n2 n3 n4 n5 n6 oI1 oR1 or1 (by assumption)))
      | (refine ih _ (RowSt.new F4 N3 hi3 hrs hth hlen (thing1 (isSign _ _)) (show (1 : Nat) ≤ 6 by decide) (by omega) n1 n2 n3 n4 n5 n6 oI1 oR1 or1 (by assumption)))
      | (refine ih _ (RowSt.new F4 N3 hi3 hrs hth hlen (thing1 (isInt _ _)) (show (1 : Nat) ≤ 6 by decide) (by omega) n1 n2 n3 n4 n5 n6 oI1 oR1 or1 (by assumption)))
      | (refine ih _ (RowSt.more F4 N3 hi3 hrs (hth.snoc (isSign _ _)) (by rw [List.length_append]; show row.length + 1 ≤ 6; omega) (by omega) n1 n2 n3 n4 n5 n6 oI1 oR1 or1))
      | (refine ih _ (RowSt.more F4 N3 hi3 hrs (hth.snoc (isInt _ _)) (by rw [List.length_append]; show row.length + 1 ≤ 6; omega) (by omega) n1 n2 n3 n4 n5 n6 oI1 oR1 or1)))
end
end Mine

namespace Mine
section
variable {w : World} {dp un : Nat} {fr : Option (List Env)} {gd : Option (List Code)} {s : Shared} {Q E : Value → Shared → Prop} {h₀ : Heap} {L : Addr} {m : Str → Option Value} {news : List (Addr × Obj)}
theorem rowRefs_ledger {q : Addr → Obj → Prop} : ∀ {vals : List Value} {rows : List (List Thing)}, RowRefs q vals rows → ∃ rl : List (Addr × Obj), (∀ p ∈ rl, q p.1 p.2) ∧ RowRefs (fun a o => (a, o) ∈ rl) vals rows
  | [], [], _ => ⟨[], (fun p hp => nomatch hp), trivial⟩
  | v :: vs, row :: rows, ⟨⟨a, xs, c, e, h, ht, h6⟩, r⟩ => by
    obtain ⟨rl, h1, h2⟩ := rowRefs_ledger r
    refine ⟨(a, listOf xs.toArray c) :: rl, fun p hp => ?_, ⟨a, xs, c, e, .head _, ht, h6⟩, h2.mono fun _ _ z => .tail _ z⟩
    rcases List.mem_cons.mp hp with rfl | hp
    · exact h
    · exact h1 p hp
  | [], _ :: _, h => h.elim
  | _ :: _, [], h => h.elim
theorem rows_newN {sl : Addr} {vs : List Value} {ns : List Int} (hL : h₀.IsList sl vs.toArray) (hI : IntsAre vs ns) (hn : ns.length ≤ 63) (G : Gnd w s.heap) (hdp : dp + 20 < recursionLimit) (hu : un + 200 < cLine)
    (F : Fr h₀ L s.heap m) (N : News h₀ L s.heap news)
    (k : ∀ R h' tk vals c rl rows, Fr h₀ L h' m → News h₀ L h' ((R, listOf (vals : List Value).toArray c) :: (news ++ rl)) → (∀ p ∈ news, p.1 ≠ R) → (∀ p ∈ rl, p.1 ≠ R) → (∀ q ∈ news, ∀ p ∈ rl, p.1 ≠ q.1) → RowRefs (fun a o => (a, o) ∈ rl) vals rows → rows.length ≤ 20 → Q (.ref R) { s with heap := h', toks := tk }) :
    wpAny (model PP w) (Ar dp un fr gd) (call (.ref 196) [.ref sl]) Q E s := by
  have hL' : s.heap.IsList sl vs.toArray := by obtain ⟨o, e, r⟩ := hL; exact ⟨o, F.keep _ _ e, r⟩
  refine rows_call hL' hI hn G hdp hu fun R h' tk vals c rows hk hR hR0 hrr hlen => ?_
  obtain ⟨rl, h1, h2⟩ := rowRefs_ledger hrr
  obtain ⟨oL, _, _, hLo, _⟩ := F.ns
  have fresh : ∀ a, s.heap.get? a = none → a ≠ L ∧ h₀.get? a = none := fun a ha => by
    refine ⟨fun q => (by rw [q, hLo] at ha; cases ha), ?_⟩
    cases e : h₀.get? a with
    | none => rfl
    | some o => rw [F.keep _ _ e] at ha; cases ha
  refine k R h' tk vals c rl rows ⟨F.ns.at' fun o e => hk _ _ e, fun b o e => hk _ _ (F.keep _ _ e), F.above⟩ (fun p hp => ?_) (fun p hp z => ?_) (fun p hp => (h1 p hp).2.2) (fun q hq p hp z => ?_) h2 hlen
  · rcases List.mem_cons.mp hp with rfl | hp
    · exact ⟨hR, fresh _ hR0⟩
    · rcases List.mem_append.mp hp with hp | hp
      · exact ⟨hk _ _ (N p hp).1, (N p hp).2⟩
      · exact ⟨(h1 p hp).1, fresh _ (h1 p hp).2.1⟩
  · have a := (N p hp).1
    rw [z, hR0] at a; cases a
  · have a := (N q hq).1
    rw [← z, (h1 p hp).2.1] at a; cases a
end
/-- the law's call has ended well -/
noncomputable def EndOk (s₁ : Shared) (r : Result) (s' : Shared) : Prop := r = .ok (.ret (.bool true)) ∧ (∀ b o, s₁.heap.get? b = some o → s'.heap.get? b = some o) ∧ s'.os = s₁.os ∧ AllBare s'.gens
theorem endOk_good {cl : Str → Option Addr} {mean : ExcName → Option Value} {args : List WData} {s₁ s' : Shared} {r : Result} (hp : PySem.Challenge.rw_ij0156_01.row.claim.post args (.bool true) args = true) (g : EndOk s₁ r s') : GoodWG PySem.Challenge.rw_ij0156_01.row.claim cl mean args s₁ r s' := by
  obtain ⟨rfl, h1, h2, h3⟩ := g
  exact ⟨.inl ⟨_, _, [], rfl, (fun _ => rfl), ReadsW.bool true, hp, fun _ => ⟨List.nodup_nil, fun _ hm => (nomatch hm)⟩⟩, .of_keep h1, h2, h3⟩
end Mine

namespace Mine
/-! lists of strings -/
theorem Strs.are : ∀ {vs : List Value} {ys : List Str}, Strs vs ys → StrsAre vs ys
  | [], [], _ => .nil
  | v :: vs, y :: ys, h => by obtain ⟨⟨t, rfl⟩, r⟩ := h; exact .cons y t r.are
  | [], _ :: _, h => h.elim
  | _ :: _, [], h => h.elim
theorem Strs.of : ∀ {vs : List Value} {ys : List Str}, StrsAre vs ys → Strs vs ys
  | _, _, .nil => trivial
  | _, _, .cons _ t h => ⟨⟨t, rfl⟩, Strs.of h⟩
theorem Strs.app : ∀ {vs us : List Value} {ys zs : List Str}, Strs vs ys → Strs us zs → Strs (vs ++ us) (ys ++ zs)
  | [], _, [], _, _, h => h
  | _ :: _, _, _ :: _, _, h, h' => ⟨h.1, h.2.app h'⟩
  | [], _, _ :: _, _, h, _ => h.elim
  | _ :: _, _, [], _, h, _ => h.elim
theorem Strs.take : ∀ {vs : List Value} {ys : List Str} (k : Nat), Strs vs ys → Strs (vs.take k) (ys.take k)
  | _ :: _, _ :: _, 0, _ => trivial
  | [], [], 0, _ => trivial
  | [], [], _ + 1, _ => trivial
  | _ :: _, _ :: _, k + 1, h => ⟨h.1, h.2.take k⟩
  | [], _ :: _, _, h => h.elim
  | _ :: _, [], _, h => h.elim
noncomputable def Small (ys : List Str) : Prop := ∀ y ∈ ys, PyData.strOk y = true
theorem small_mk {l : List Nat} (h : ∀ c ∈ l, c < 256) : PyData.strOk (mk l) = true := by
  simp only [PyData.strOk, mk]
  rw [← Array.all_toList]
  exact List.all_eq_true.mpr fun c hc => decide_eq_true (Nat.lt_trans (h c hc) (by decide))
theorem canLay_strs : ∀ {ys : List Str}, Small ys → PyData.canLayAll0 (ys.map PyData.str) = true
  | [], _ => rfl
  | y :: ys, h => by
    have h1 := h y (List.mem_cons_self ..)
    have h2 := canLay_strs (ys := ys) fun z hz => h z (List.mem_cons_of_mem _ hz)
    simp [PyData.canLayAll0, PyData.canLay0, h1, h2]
theorem depth_strs : ∀ ys : List Str, PyData.depthAll (ys.map PyData.str) ≤ 1
  | [] => by simp [PyData.depthAll]
  | n :: r => by
    have := depth_strs r
    simp only [List.map_cons, PyData.depthAll, PyData.depth]
    omega
theorem shaped_strs {ys : List Str} (h : Small ys) : SeqAt.shaped (.list (ys.map PyData.str)) = true := by
  have h1 := depth_strs ys
  have h2 : PyData.depth (.list (ys.map PyData.str)) ≤ 64 := by simp only [PyData.depth]; omega
  show (PyData.canLay0 (.list (ys.map PyData.str)) && decide (PyData.depth (.list (ys.map PyData.str)) ≤ 64)) = true
  rw [Bool.and_eq_true]
  exact ⟨by simp only [PyData.canLay0]; exact canLay_strs h, decide_eq_true h2⟩
theorem same_strs : ∀ ys : List Str, PySem.Spec.sameAll (ys.map PyData.str) (ys.map PyData.str) = true
  | [] => by simp [PySem.Spec.sameAll]
  | n :: r => by simp [PySem.Spec.sameAll, PySem.Spec.same, same_strs r]
theorem str_has (x : Str) : (Spec.Shape.str).has (PyData.str x) = true := rfl
section
variable {prog : Program} {w : World} {A : Around} {E : Value → Shared → Prop} {s : Shared} {a b : Addr} {xs us : List Value} {ys : List Str} {Q : Value → Shared → Prop}
theorem eq_strsK (ha : s.heap.IsList a xs.toArray) (hb : s.heap.IsList b us.toArray) (hi : Strs xs ys) (hj : Strs us ys) (hs : Small ys) (hu : A.units + 64 < cLine) (h : Q (.bool true) s) :
    wpAny (model prog w) A (compareOp .Eq (.ref a) (.ref b)) Q E s :=
  eq_dataH_same (reads_newData ha hi.are.carried) (reads_newData hb hj.are.carried) (shaped_strs hs) (shaped_strs hs) hu (SeqAt.noMix_of_shape (.list .str) rfl _ _ (list_map_has str_has) (list_map_has str_has)) (by simp only [PySem.Spec.same]; rw [same_strs]; exact h)
theorem ne_strsK (ha : s.heap.IsList a xs.toArray) (hb : s.heap.IsList b us.toArray) (hi : Strs xs ys) (hj : Strs us ys) (hs : Small ys) (hu : A.units + 64 < cLine) (h : Q (.bool false) s) :
    wpAny (model prog w) A (compareOp .NotEq (.ref a) (.ref b)) Q E s :=
  ne_dataH_same (reads_newData ha hi.are.carried) (reads_newData hb hj.are.carried) (shaped_strs hs) (shaped_strs hs) hu (SeqAt.noMix_of_shape (.list .str) rfl _ _ (list_map_has str_has) (list_map_has str_has)) (by simp only [PySem.Spec.same]; rw [same_strs]; exact h)
end
/-! xs += ys -/
section
variable {prog : Program} {w : World} {A : Around} {E : Value → Shared → Prop} {s : Shared} {h₀ : Heap} {L l b : Addr} {m : Str → Option Value} {news : List (Addr × Obj)} {g : Obj → List (Addr × Obj)} {acc acc2 : Array Value} {c c2 : Nat} {Q : Value → Shared → Prop}
theorem seq_list_iadd : seqSlot? (.type "list") (dunderI "add") = pure (some (.builtin "list.__iadd__")) := PySem.seqSlot_of PySem.F.slot_list_iadd.lookup (by decide +kernel)
theorem iadd_list (hl : s.heap.get? l = some (listOf acc c)) (hb : s.heap.get? b = some (listOf acc2 c2)) (hsz : acc.size + acc2.size ≤ 10000) (h : Q (.ref l) { s with heap := s.heap.update l (Obj.mapSeq fun x => x ++ acc2) }) :
    wpAny (model prog w) A (inplaceOp .Add (.ref l) (.ref b)) Q E s := by
  have ha : s.TypeIs (.ref l) "list" := ⟨_, hl, rfl⟩
  have hb' : s.TypeIs (.ref b) "list" := ⟨_, hb, rfl⟩
  unfold inplaceOp
  refine wpAny_holding ?_
  have hfi : fillsInplaceSlot (.type "list") "add" (Operator.Add == .Add) = pure false := by
    unfold fillsInplaceSlot
    show (typeLookup (.type "list") (dunderI "add") >>= fun fi => pure (fi.isSome && !isSeqSlot fi)) = pure false
    rw [PySem.F.slot_list_iadd.lookup]
    simp only [pure_bind]
    rfl
  refine wpAny_bind (wpAny_typeOf ha (wpAny_bind (wpAny_of_eq hfi ?_)))
  show wpAny _ A (if false = true then _ else _) Q E s
  rw [if_neg Bool.false_ne_true]
  refine wpAny_bind (wpAny_binaryOp1_none (nm := "add") ha hb' noFill_list_add ?_)
  refine wpAny_bind (wpAny_of_eq seq_list_iadd ?_)
  refine wpAny_bind (wpAny_rule ?_)
  refine call_meets PySem.F.slot_list_iadd ha PySem.F.entry_list_iadd (PySem.F.args_list_iadd_2 _ _) (AutoSeq1.list___iadd___list_list_0 l acc c b acc2 c2 ?_ ?_ ?_) ⟨hl, hb, ?_⟩
  · have e : Builtin.List.listTooLong (acc.size + acc2.size) = false := by
      have := sizeLine_eq; simp [Builtin.List.listTooLong]; omega
    simp [e]
  · rw [sizeLine_eq]; omega
  · rw [sizeLine_eq]; omega
  · first | exact h | exact ⟨_, rfl, h⟩ | exact ⟨rfl, h⟩
theorem iadd_listN (F : Fr h₀ L s.heap m) (N : News h₀ L s.heap news) (U : UpdF l (listOf acc c) news g) (hb : (b, listOf acc2 c2) ∈ news) (hsz : acc.size + acc2.size ≤ 10000)
    (h : ∀ h' c', Fr h₀ L h' m → News h₀ L h' (g (listOf (acc ++ acc2) c')) → Q (.ref l) { s with heap := h' }) :
    wpAny (model prog w) A (inplaceOp .Add (.ref l) (.ref b)) Q E s := by
  obtain ⟨pre, post, hsp, hg, ha, hp⟩ := U.split
  have z := N (l, listOf acc c) (by rw [hsp]; exact List.mem_append_right _ (.head _))
  refine iadd_list z.1 (N _ hb).1 hsz (h _ (if (acc ++ acc2).size == acc.size then c else c + 1) (F.change (Heap.SameBut.update ..) z.2.1 z.2.2) ?_)
  rw [hg]
  exact (show News h₀ L s.heap (pre ++ (l, listOf acc c) :: post) from hsp ▸ N).setIn ha hp (Heap.SameBut.update ..) (Heap.get?_update_self _ z.1 rfl)
end
/-! the frame at hand -/
theorem caller_of {h₀ h : Heap} {L : Addr} {m : Str → Option Value} (F : Fr h₀ L h m) : ∃ oF, h.get? L = some oF ∧ TI.Caller h₀ L m oF := by
  obtain ⟨oL, es, ep, hL, hLd, hLk, hLf⟩ := F.ns
  exact ⟨oL, hL, fun h' sl e => ⟨_, es, ep, e, hLd, hLk, hLf⟩, ⟨es, ep, hLd⟩, F.above⟩
theorem fresh_of {h₀ h : Heap} {L : Addr} {m : Str → Option Value} (F : Fr h₀ L h m) {a : Addr} (ha : h.get? a = none) : a ≠ L ∧ h₀.get? a = none := by
  obtain ⟨oL, _, _, hLo, _⟩ := F.ns
  refine ⟨fun q => (by rw [q, hLo] at ha; cases ha), ?_⟩
  cases e : h₀.get? a with
  | none => rfl
  | some o => rw [F.keep _ _ e] at ha; cases ha
theorem News.sub {h₀ h : Heap} {L : Addr} {a b : List (Addr × Obj)} (N : News h₀ L h b) (hs : ∀ p ∈ a, p ∈ b) : News h₀ L h a := fun p hp => N p (hs p hp)
/-! list(_ancestry(path)) -/
section
variable {w : World} {A : Around} {s : Shared} {Q E : Value → Shared → Prop} {h₀ gb : Heap} {L a g Lg : Nat} {m : Str → Option Value} {news : List (Addr × Obj)} {all : List Str} {gs : GenState} {oL : Obj} {nm qn : Value}
theorem strs_items : ∀ {ys : List Str} {vs : List Value}, vs.length = ys.length → (∀ (j : Nat) v, vs[j]? = some v → ∃ y t, ys[j]? = some y ∧ v = .str y t) → Strs vs ys
  | [], [], _, _ => trivial
  | y :: ys, v :: vs, hl, h => by
    obtain ⟨y', t, e, rfl⟩ := h 0 v rfl
    obtain rfl : y = y' := Option.some.inj e
    exact ⟨⟨t, rfl⟩, strs_items (by simpa using hl) fun j v hv => h (j + 1) v hv⟩
  | [], _ :: _, hl, _ => nomatch hl
  | _ :: _, [], hl, _ => nomatch hl
theorem list_ancN (hh : A.handled = none) (hdp : A.depth ≤ 480) (hu : A.units ≤ 4900) (F : Fr h₀ L s.heap m) (N : News h₀ L s.heap ((a, genObj g nm qn) :: (Lg, oL) :: news)) (hlt : ∀ p ∈ news, p.1 < Lg) (hLa : Lg < a)
    (Gb : Gnd w gb) (hgb : ∀ b o, gb.get? b = some o → h₀.get? b = some o) (hgL : gb.get? Lg = none) (hgz : gb.objs.size ≤ h₀.objs.size) (hgs : s.gens[g]? = some gs) (go : GenGo w gb Lg all 0 gs oL) (hn : all.length ≤ 1000)
    (k : ∀ S h' tk gens' acc c, Fr h₀ L h' m → News h₀ L h' ((S, listOf acc c) :: news) → (∀ p ∈ news, p.1 < S) → Strs acc.toList all → GenOnlyQ g s.gens gens' → Q (.ref S) { s with heap := h', gens := gens', toks := tk }) :
    wpAny (model PP w) A (call (.type "list") [.ref a]) Q E s := by
  have za := N _ (.head _)
  have zL := N _ (.tail _ (.head _))
  have ga : GenAt w gb a g Lg all 0 s := go.at ⟨_, _, _, za.1, rfl, rfl, rfl⟩ (fun b o e => F.keep _ _ (hgb _ _ e)) hgs zL.1
  have hsz : gb.objs.size ≤ s.heap.objs.size := Nat.le_trans hgz (Nat.le_trans F.above (Nat.le_of_lt F.ns.lt))
  have W := gen_walks (w := w) (A := A.in1.in1) (base := gb) (L := Lg) (a := a) (g := g) (all := all) hh (Nat.le_trans hdp (by decide)) (by show A.units + 1 + 1 + 1 ≤ 5000; omega) Gb (Nat.ne_of_gt hLa) hgL (N := s.heap.objs.size) (Heap.lt_size za.1) (Heap.lt_size zL.1) hsz
  refine call_list_gen W (fun i s st => st.2.1.typeIs) ⟨Nat.zero_le _, ga⟩ (fun b hb => List.mem_range.mp hb) (List.mem_range.mpr (Heap.lt_size za.1)) (fun s' acc' c' hm hS hacc => ?_) (by show _ ≤ 16777216; omega)
  obtain ⟨h', gens', dr, tk, os⟩ := s'
  have e1 : dr = s.drawn := hm.drawn
  have e2 : os = s.os := hm.os
  subst e1; subst e2
  have kp : ∀ b o, b ≠ Lg → s.heap.get? b = some o → h'.get? b = some o := fun b o hb e => hm.heap b o (by
    simp only [List.mem_cons, List.not_mem_nil, or_false, not_or]
    exact ⟨Nat.ne_of_lt (Heap.lt_size e), hb⟩) (Heap.get?_push_of_some _ e)
  have fS := fresh_of F (Heap.get?_none_of_le (Nat.le_refl s.heap.objs.size))
  refine k _ h' tk gens' acc' c' ⟨F.ns.at' fun o e => kp _ _ (Ne.symm zL.2.1) e, fun b o e => kp _ _ (fun q => by rw [q, zL.2.2] at e; cases e) (F.keep _ _ e), F.above⟩ (fun p hp => ?_) (fun p hp => Heap.lt_size (N p (.tail _ (.tail _ hp))).1) ?_ hm.gens
  · rcases List.mem_cons.mp hp with rfl | hp
    · exact ⟨hS, fS⟩
    · have z := N p (.tail _ (.tail _ hp))
      exact ⟨kp _ _ (Nat.ne_of_lt (hlt p hp)) z.1, z.2⟩
  · refine strs_items (by rw [Array.length_toList]; exact hacc.1) fun j v hv => ?_
    exact hacc.2 j v (by rw [← Array.getElem?_toList]; exact hv)
end
end Mine

namespace Mine
section
variable {w : World} {s : Shared} {Q E : Value → Shared → Prop} {dp un : Nat} {gd : Option (List Code)} {cn : Str} {cs : Scope} {L la : Nat} {ccd : Value} {cl : List (Str × Addr)} {h₀ gb : Heap} {m : Str → Option Value} {news : List (Addr × Obj)} {mean : ExcName → Option Value} {mg mb : Str → Option Value} {all : List Str}
/-! _parents(path), list of it -/
theorem parents_newN {x : Str} {t : Tok} (hx : x.length ≤ 1000) (o : Outs (Txt.rstripChars x (Str.ofString "/")) all)
    (F : Fr h₀ L s.heap m) (X : (hd.heap_39 w.params).In h₀) (N : News h₀ L s.heap news) (T : TP mean mg mb h₀) (hk : cs.kind = .function) (hdp : dp ≤ 400) (hu : un ≤ 3000) (Gb : Gnd w gb) (hgb : ∀ b o, gb.get? b = some o → h₀.get? b = some o) (hgz : gb.objs.size ≤ h₀.objs.size)
    (k : ∀ Lg a d x h' tk gs oL nm qn t₁ t₂ t₃ t₄, Fr h₀ L h' m → News h₀ L h' ((x, islObj d (.ref a) 0 1 t₁ t₂ t₃ t₄) :: (d, dictOf [] 0) :: (a, genObj s.gens.size nm qn) :: (Lg, oL) :: news) → (∀ p ∈ news, p.1 < Lg) → h₀.objs.size ≤ Lg → L < Lg → Lg < a → a < d → d < x →
      gs.bare = true → GenGo w gb Lg all 0 gs oL → Q (.ref x) { s with gens := s.gens.push gs, toks := tk, heap := h' }) :
    wpAny (model PP w) (ktrTop dp un gd cn cs L la ccd cl []) (call (.ref 119) [.str x t]) Q E s := by
  refine parents_call hx o head_len rstrip_len (below_caller h₀) F X N T hk hdp hu Gb (fun b o e => F.keep _ _ (hgb _ _ e)) (Nat.le_trans hgz (Nat.le_trans F.above (Nat.le_of_lt F.ns.lt))) fun Lg a d x h' tk gs oL nm qn t₁ t₂ t₃ t₄ hk' px pd pa pL l1 l2 l3 l4 hb go => ?_
  have fr : ∀ b, s.heap.objs.size ≤ b → b ≠ L ∧ h₀.get? b = none := fun b hb => fresh_of F (Heap.get?_none_of_le hb)
  have hL : L < Lg := Nat.lt_of_lt_of_le F.ns.lt l1
  have m1 : @LE.le Nat _ s.heap.objs.size Lg := l1
  have m2 : @LT.lt Nat _ Lg a := l2
  have m3 : @LT.lt Nat _ a d := l3
  have m4 : @LT.lt Nat _ d x := l4
  refine k Lg a d x h' tk gs oL nm qn t₁ t₂ t₃ t₄ (F.keeps hk') (fun p hp => ?_) (fun p hp => Nat.lt_of_lt_of_le (Heap.lt_size (N p hp).1) l1) (Nat.le_trans F.above (Nat.le_of_lt hL)) hL l2 l3 l4 hb go
  rcases List.mem_cons.mp hp with rfl | hp
  · exact ⟨px, fr _ (by omega)⟩
  rcases List.mem_cons.mp hp with rfl | hp
  · exact ⟨pd, fr _ (by omega)⟩
  rcases List.mem_cons.mp hp with rfl | hp
  · exact ⟨pa, fr _ (by omega)⟩
  rcases List.mem_cons.mp hp with rfl | hp
  · exact ⟨pL, fr _ l1⟩
  · exact ⟨hk' _ _ (N p hp).1, (N p hp).2⟩
theorem list_islN {x d a Lg g : Nat} {gs : GenState} {oL : Obj} {nm qn : Value} {t₁ t₂ t₃ t₄ : Tok} (hk : cs.kind = .function) (hdp : dp ≤ 400) (hu : un + 2 ≤ 3000)
    (F : Fr h₀ L s.heap m) (X : (hd.heap_39 w.params).In h₀) (T : TP mean mg mb h₀) (N : News h₀ L s.heap ((x, islObj d (.ref a) 0 1 t₁ t₂ t₃ t₄) :: (d, dictOf [] 0) :: (a, genObj g nm qn) :: (Lg, oL) :: news))
    (hlt : ∀ p ∈ news, p.1 < Lg) (l0 : L < Lg) (l1 : Lg < a) (l2 : a < d) (l3 : d < x) (Gb : Gnd w gb) (hgb : ∀ b o, gb.get? b = some o → h₀.get? b = some o) (hgL : gb.get? Lg = none) (hgs : s.gens[g]? = some gs) (go : GenGo w gb Lg all 0 gs oL) (hn : all.length ≤ 1000)
    (k : ∀ S h' tk gens' acc c, Fr h₀ L h' m → News h₀ L h' ((S, listOf acc c) :: news) → (∀ p ∈ news, p.1 < S) → Strs acc.toList (all.drop 1) → GenOnlyQ g s.gens gens' → Q (.ref S) { s with heap := h', gens := gens', toks := tk }) :
    wpAny (model PP w) (ktrTop dp un gd cn cs L la ccd cl []) (call (.type "list") [.ref x]) Q E s := by
  obtain ⟨oF, hF, tc⟩ := caller_of F
  have zx := N _ (.head _)
  have zd := N _ (.tail _ (.head _))
  have za := N _ (.tail _ (.tail _ (.head _)))
  have zL := N _ (.tail _ (.tail _ (.tail _ (.head _))))
  have lx : @LT.lt Nat _ x s.heap.objs.size := Heap.lt_size zx.1
  dsimp only at zx zd za zL
  have lL : @LT.lt Nat _ L x := by omega
  have GG : IslGround w gb h₀ s oF m L x d a Lg g nm qn mean mg mb := ⟨F.keep, Heap.get?_none_of_le F.above, zx.2.2, zd.2.2, za.2.2, zL.2.2, zd.1, za.1, ⟨l0, l1, l2, l3⟩, tc, X, T, Gb, hgb, hgL⟩
  have TL := isl_tell (dp := dp) (un := un + 2) (gd := gd) (cn := cn) (cs := cs) (la := la) (ccd := ccd) (cl := cl) (S := s.heap.objs.size) (all := all) (t₃ := t₃) (t₄ := t₄) hk hdp hu GG (Heap.get?_none_of_le (Nat.le_refl _)) (by omega) (by omega) (by omega)
  refine tell_list (A := ktrTop dp un gd cn cs L la ccd cl []) rfl TL (by rw [List.length_drop, sizeLine_eq]; omega) (Nat.ne_of_gt lx) ?_ fun s' acc c fin hS ha => ?_
  · refine IslCore.grow (tk := s.toks) (s := s) (fun b o e => Heap.get?_push_of_some _ e) ⟨⟨fun _ _ _ e => e, .inl rfl, rfl, rfl⟩, ⟨oF.slots, hF⟩, ⟨t₁, t₂, zx.1⟩, ⟨oL, gs, zL.1, hgs, go⟩, Nat.zero_le _⟩
  · obtain ⟨kt, sl, eL⟩ := fin
    obtain ⟨h', gens', dr, tk, os⟩ := s'
    have e1 : dr = s.drawn := kt.drawn
    have e2 : os = s.os := kt.os
    subst e1; subst e2
    have kp : ∀ b o, b ≠ x → b ≠ Lg → b ≠ L → s.heap.get? b = some o → h'.get? b = some o := fun b o h1 h2 h3 e => kt.heap b o (by simp [h1, h2, h3]) e
    have fS := fresh_of F (Heap.get?_none_of_le (Nat.le_refl s.heap.objs.size))
    refine k _ h' tk gens' acc c ⟨tc.ns _ sl eL, fun b o e => ?_, F.above⟩ (fun p hp => ?_) (fun p hp => Heap.lt_size (N p (.tail _ (.tail _ (.tail _ (.tail _ hp))))).1) ha kt.gens
    · refine kp b o (fun q => ?_) (fun q => ?_) (fun q => ?_) (F.keep _ _ e)
      · rw [q, zx.2.2] at e; cases e
      · rw [q, zL.2.2] at e; cases e
      · rw [q, Heap.get?_none_of_le F.above] at e; cases e
    · rcases List.mem_cons.mp hp with rfl | hp
      · exact ⟨hS, fS⟩
      · have z := N p (.tail _ (.tail _ (.tail _ (.tail _ hp))))
        have : @LT.lt Nat _ p.1 Lg := hlt p hp
        exact ⟨kp _ _ (show @Ne Nat p.1 x by omega) (show @Ne Nat p.1 Lg by omega) z.2.1 z.1, z.2⟩
/-! _difference(xs, ys), list of it -/
theorem difference_newN {l₁ l₂ : Addr} {acc₁ acc₂ : Array Value} {c₁ c₂ : Nat} {xs ys : List Str} (F : Fr h₀ L s.heap m) (X : (hd.heap_39 w.params).In h₀) (N : News h₀ L s.heap news) (T : TP mean mg mb h₀) (hk : cs.kind = .function) (hdp : dp ≤ 400) (hu : un ≤ 3000)
    (g₁ : (l₁, listOf acc₁ c₁) ∈ news) (a₁ : Strs acc₁.toList xs) (g₂ : (l₂, listOf acc₂ c₂) ∈ news) (a₂ : Strs acc₂.toList ys) (hn : ys.length ≤ 4000)
    (k : ∀ D M d x I h' tk es ep ts, Fr h₀ L h' m → News h₀ L h' ((I, litObj l₁ 0) :: (x, filObj d M I) :: (d, dictOf [] 0) :: (M, conObj D) :: (D, setObj es ep ts) :: news) → (∀ p ∈ news, p.1 < D) → L < D → D < M → M < d → d < x → x < I → SetFacts PP w ys es ts → Q (.ref x) { s with heap := h', toks := tk }) :
    wpAny (model PP w) (ktrTop dp un gd cn cs L la ccd cl []) (call (.ref 154) [.ref l₁, .ref l₂]) Q E s := by
  refine difference_call (below_caller h₀) F X N T hk hdp hu (N _ g₁).1 a₁ (N _ g₂).1 a₂ hn fun D M d x I h' tk es ep ts hD hk' l1 l2 l3 l4 nD nM nd nx nI pD pM pd px pI sf => ?_
  refine k D M d x I h' tk es ep ts (F.keeps hk') (fun p hp => ?_) (fun p hp => Nat.lt_of_lt_of_le (Heap.lt_size (N p hp).1) hD) (Nat.lt_of_lt_of_le F.ns.lt hD) l1 l2 l3 l4 sf
  rcases List.mem_cons.mp hp with rfl | hp
  · exact ⟨pI, fresh_of F nI⟩
  rcases List.mem_cons.mp hp with rfl | hp
  · exact ⟨px, fresh_of F nx⟩
  rcases List.mem_cons.mp hp with rfl | hp
  · exact ⟨pd, fresh_of F nd⟩
  rcases List.mem_cons.mp hp with rfl | hp
  · exact ⟨pM, fresh_of F nM⟩
  rcases List.mem_cons.mp hp with rfl | hp
  · exact ⟨pD, fresh_of F nD⟩
  · exact ⟨hk' _ _ (N p hp).1, (N p hp).2⟩
theorem list_filN {x d M D I l : Nat} {acc : Array Value} {c ep : Nat} {es : Array (Int × Value)} {ts : SetTable} {xs ys : List Str} (hk : cs.kind = .function) (hdp : dp ≤ 400) (hu : un + 2 ≤ 3000)
    (F : Fr h₀ L s.heap m) (X : (hd.heap_39 w.params).In h₀) (T : TP mean mg mb h₀) (N : News h₀ L s.heap ((I, litObj l 0) :: (x, filObj d M I) :: (d, dictOf [] 0) :: (M, conObj D) :: (D, setObj es ep ts) :: news)) (hl : (l, listOf acc c) ∈ news)
    (hlt : ∀ p ∈ news, p.1 < D) (l0 : L < l) (l1 : D < M) (l2 : M < d) (l3 : d < x) (l4 : x < I) (sf : SetFacts PP w ys es ts) (ha : Strs acc.toList xs) (hn : xs.length ≤ 10000)
    (k : ∀ S h' tk acc' c', Fr h₀ L h' m → News h₀ L h' ((S, listOf acc' c') :: news) → (∀ p ∈ news, p.1 < S) → Strs acc'.toList (xs.filter fun z => decide (z ∉ ys)) → Q (.ref S) { s with heap := h', toks := tk }) :
    wpAny (model PP w) (ktrTop dp un gd cn cs L la ccd cl []) (call (.type "list") [.ref x]) Q E s := by
  obtain ⟨oF, hF, tc⟩ := caller_of F
  have zI := N _ (.head _)
  have zx := N _ (.tail _ (.head _))
  have zd := N _ (.tail _ (.tail _ (.head _)))
  have zM := N _ (.tail _ (.tail _ (.tail _ (.head _))))
  have zD := N _ (.tail _ (.tail _ (.tail _ (.tail _ (.head _)))))
  have zl := N _ (.tail _ (.tail _ (.tail _ (.tail _ (.tail _ hl)))))
  have lI : @LT.lt Nat _ I s.heap.objs.size := Heap.lt_size zI.1
  have llD : @LT.lt Nat _ l D := hlt _ hl
  dsimp only at zI zx zd zM zD zl
  have GG : FilGround w h₀ s oF m L x d M D I l acc c ep es ts xs ys mean mg mb := by
    refine ⟨F.keep, fun b hb => ?_, zx.1, zd.1, zM.1, zD.1, zl.1, ⟨l0, llD, l1, l2, l3, l4⟩, tc, X, T, sf, ha⟩
    simp only [List.mem_cons, List.not_mem_nil, or_false] at hb
    rcases hb with rfl | rfl | rfl | rfl | rfl | rfl | rfl
    · exact zx.2.2
    · exact zd.2.2
    · exact zM.2.2
    · exact zD.2.2
    · exact zI.2.2
    · exact zl.2.2
    · exact Heap.get?_none_of_le F.above
  have TL := fil_tell (dp := dp) (un := un + 2) (gd := gd) (cn := cn) (cs := cs) (la := la) (ccd := ccd) (cl := cl) (S := s.heap.objs.size) hk hdp hu GG (Heap.get?_none_of_le (Nat.le_refl _)) (by omega) (by omega)
  refine tell_list (A := ktrTop dp un gd cn cs L la ccd cl []) rfl TL (by rw [sizeLine_eq]; have := List.length_filter_le (fun z => decide (z ∉ ys)) xs; omega) (Nat.ne_of_gt (Nat.lt_trans l4 lI)) ?_ fun s' acc' c' fin hS ha' => ?_
  · exact ⟨0, FilCore.grow (tk := s.toks) (s := s) (fun b o e => Heap.get?_push_of_some _ e) ⟨⟨fun _ _ _ e => e, rfl, rfl, rfl⟩, ⟨oF.slots, hF⟩, zI.1, Nat.zero_le _⟩, rfl⟩
  · obtain ⟨kt, sl, eL⟩ := fin
    obtain ⟨h', gens', dr, tk, os⟩ := s'
    have e0 : gens' = s.gens := kt.gens
    have e1 : dr = s.drawn := kt.drawn
    have e2 : os = s.os := kt.os
    subst e0; subst e1; subst e2
    have kp : ∀ b o, b ≠ I → b ≠ L → s.heap.get? b = some o → h'.get? b = some o := fun b o h1 h2 e => kt.heap b o (by simp [h1, h2]) e
    have fS := fresh_of F (Heap.get?_none_of_le (Nat.le_refl s.heap.objs.size))
    refine k _ h' tk acc' c' ⟨tc.ns _ sl eL, fun b o e => ?_, F.above⟩ (fun p hp => ?_) (fun p hp => Heap.lt_size (N p (.tail _ (.tail _ (.tail _ (.tail _ (.tail _ hp)))))).1) ha'
    · refine kp b o (fun q => ?_) (fun q => ?_) (F.keep _ _ e)
      · rw [q, zI.2.2] at e; cases e
      · rw [q, Heap.get?_none_of_le F.above] at e; cases e
    · rcases List.mem_cons.mp hp with rfl | hp
      · exact ⟨hS, fS⟩
      · have z := N p (.tail _ (.tail _ (.tail _ (.tail _ (.tail _ hp)))))
        have : @LT.lt Nat _ p.1 D := hlt p hp
        exact ⟨kp _ _ (show @Ne Nat p.1 I by omega) z.2.1 z.1, z.2⟩
end
/-! a comprehension over range(a, b, c) -/
noncomputable def DownSrc (prog : Program) (w : World) (A : Around) (h₀ : Heap) (L : Addr) (m : Str → Option Value) (env : Env) (elt : Expr) (x : Str) (scope : Scope) (cl : List (Str × Addr)) (Q : Value → Shared → Prop) (xv : Value) (s₁ : Shared) : Prop :=
  ∃ r a b c t u v n news, xv = .ref r ∧ A.handled = none ∧ Fr h₀ L s₁.heap m ∧ News h₀ L s₁.heap news ∧ IsRange s₁.heap r a b c t u v ∧ Builtin.Range.small a b c = true ∧ Builtin.Range.rangeSize a b c = ((n : Nat) : Int) ∧ n ≤ sizeLine ∧
    ∀ s₂ : Shared, (∃ h, s₂ = { s₁ with heap := h }) → LCg.CompRest prog w A h₀ L m env elt x scope cl s₂ (fun _ => True) (fun i v => i < n ∧ ∃ t, v = .int (a + i * c) t) (LCg.FinE h₀ L m s₂ Q) n 0 [] news
section
variable {prog : Program} {w : World} {A : Around} {E : Value → Shared → Prop} {s : Shared} {h₀ : Heap} {L : Addr} {m : Str → Option Value} {env : Env}
theorem ListComp_D {elt iter : Expr} {x : Str} {px : Pos} {scope : Scope} {cl : List (Str × Addr)} {pos : Pos} {Q : Value → Shared → Prop} (_F₀ : Fr h₀ L s.heap m)
    (hclos : closureFor scope env = pure cl) (hcell : ∀ y ∈ scope.names, y.2 ≠ .cell) (hkind : scope.kind = .function)
    (hnames : ∀ y ∈ scope.names, y.2 = .local → scope.names.lookup y.1 = some .local) (hx : scope.names.lookup x = some .local)
    (h : wpAny (model prog w) A (eval iter env) (DownSrc prog w A h₀ L m env elt x scope cl Q) E s)
    (hs : ∀ x, foldedSetIterable iter env x = pure x := by intro _; rfl) :
    wpAny (model prog w) A (eval (.ListComp elt [⟨.Name x px, iter, [], 0⟩] scope pos) env) Q E s := by
  rw [eval_ListComp]
  refine wpAny_comprehension_free (use := none) rfl hs hclos hkind hnames (wpAny_mono h (fun xv s₁ h₁ => ?_) fun _ _ e => e)
  obtain ⟨r, a, b, c, t, u, v, n, news, rfl, hh, F, N, hr, hsm, hn, hsz, R⟩ := h₁
  have st : ∀ i (h h' : Heap) (o : Obj) (nw : List (Addr × Obj)), IsRangeIter h s₁.heap.objs.size (a + (i : Nat) * c) ((n : Int) - (i : Nat)) c → h.get? s₁.heap.objs.size = some o → h'.get? s₁.heap.objs.size = some o → (∀ b o, h₀.get? b = some o → h'.get? b = some o) → News h₀ L h' nw → True → IsRangeIter h' s₁.heap.objs.size (a + (i : Nat) * c) ((n : Int) - (i : Nat)) c := by
    intro i h h' o nw st e e' _ _ _
    have st' : h.get? s₁.heap.objs.size = some _ := st
    show h'.get? s₁.heap.objs.size = some _
    rw [e', ← e]; exact st'
  refine wpAny_pyIter_range hr hsm ?_
  refine LCg.block_U ((Walks.range hh s₁.heap.objs.size a c n).bound) hsz (fun i h st => ⟨_, st⟩) st hcell hkind hx (by show IsRangeIter _ _ _ _ _; rw [hn]; simpa using Heap.get?_push_size _ rfl) (fun b hb => ?_)
    (F.keeps fun _ _ e => Heap.get?_push_of_some _ e) (N.grown fun _ _ e => Heap.get?_push_of_some _ e) (Nat.ne_of_lt F.ns.lt) (next_is_new F) (fun p hp => Nat.ne_of_lt (Heap.lt_size (N p hp).1)) trivial (R _ ⟨_, rfl⟩) ?_
  · rw [List.mem_singleton.mp hb]
    show s₁.heap.objs.size < (s₁.heap.push _).objs.size
    rw [Heap.size_push]; exact Nat.lt_succ_self _
  · intro D C h tk m' ys news' F' N' o1 hn hC₀ hD₀ hCL hDL hCD offC fin
    refine ⟨m', hn, fun h'' hs'' => fin D h'' tk (F'.change hs'' hCL hC₀) (fun p hp => ?_) o1⟩
    refine ⟨hs''.extBut _ _ ?_ (N' p hp).1, (N' p hp).2⟩
    rcases List.mem_cons.mp hp with rfl | hp
    · exact Ne.symm hCD
    · exact offC p hp
end
end Mine

namespace Mine
/-- the rows' places -/
theorem RowRefs.get {p : Addr → Obj → Prop} : ∀ {vs : List Value} {rows : List (List Thing)}, RowRefs p vs rows → ∀ {i : Nat} (h : i < rows.length), ∃ a xs c, vs[i]? = some (.ref a) ∧ p a (listOf (xs : List Value).toArray c) ∧ Things xs rows[i] ∧ rows[i].length ≤ 6
  | _ :: _, _ :: _, x, 0, _ => by obtain ⟨⟨a, xs, c, rfl, h1, h2, h3⟩, _⟩ := x; exact ⟨a, xs, c, rfl, h1, h2, h3⟩
  | _ :: _, _ :: _, x, i + 1, h => RowRefs.get x.2 (i := i) (Nat.lt_of_succ_lt_succ h)
  | [], [], _, _, h => absurd h (Nat.not_lt_zero _)
  | [], _ :: _, x, _, _ => x.elim
  | _ :: _, [], x, _, _ => x.elim
/-- what the law's loop keeps -/
structure LawSt (g : Heap) (L n0 a0 dn da I R : Nat) (vals : List Value) (cR : Nat) (rl : List (Addr × Obj)) (s₀ : Shared) (i : Nat) (s : Shared) : Prop where
  ex : ∃ h tk gens m oI o1 o2 o3 x1 k1 x2 k2 x3 k3 x4 k4 nm ab v3, s = { s₀ with heap := h, gens := gens, toks := tk } ∧ Fr g L h m ∧ m (Str.ofString "names") = some (.ref n0) ∧ m (Str.ofString "above") = some (.ref a0) ∧
    News g L h ((I, oI) :: (R, listOf vals.toArray cR) :: (da, listOf x4 k4) :: (dn, listOf x3 k3) :: (a0, listOf x2 k2) :: (n0, listOf x1 k1) :: (L + 1 + 1 + 1, o3) :: (L + 1 + 1, o2) :: (L + 1, o1) :: rl) ∧ LitIt oI R i ∧
    Strs x1.toList nm ∧ Strs x3.toList nm ∧ Strs x2.toList ab ∧ Strs x4.toList ab ∧ nm.length ≤ i ∧ ab.length ≤ 6 * i ∧ Small nm ∧ Small ab ∧ o1.data = .cell (some (.ref dn)) ∧ o2.data = .cell (some (.ref da)) ∧ o3.data = .cell v3 ∧ AllBare gens
theorem lawDepth (env : Env) : (callerA.deeper env).depth + 100 < recursionLimit := by show (1 + claimMargin + 1) + 100 < 1000; decide
theorem lawUnits (env : Env) : (callerA.deeper env).units + 500 < cLine := by show (4 + _) + 500 < 9900; decide
theorem lessDepth {n k m : Nat} (h : n + 100 < m) (hk : k ≤ 100) : n + k < m := Nat.lt_of_le_of_lt (Nat.add_le_add_left hk n) h
theorem lessUnits {n k m : Nat} (h : n + 500 < m) (hk : k ≤ 500) : n + k < m := Nat.lt_of_le_of_lt (Nat.add_le_add_left hk n) h
theorem lawDepthLe (env : Env) : (callerA.deeper env).depth ≤ 400 := by show (1 + claimMargin + 1) ≤ 400; decide
theorem lawUnitsLe (env : Env) : (callerA.deeper env).units ≤ 1000 := by show (4 + _) ≤ 1000; decide
theorem sum_words : ∀ ths : List Thing, ((ths.map fun th => mk (uText th.bits)).map (·.length)).sum ≤ 3 * ths.length
  | [] => Nat.le_refl _
  | th :: ths => by
    have h1 := u_len th.bits
    have h2 := sum_words ths
    simp only [List.map_cons, List.sum_cons, List.length_cons, mk_len] at h2 ⊢
    omega
theorem add_newN {prog : Program} {w : World} {A : Around} {E : Value → Shared → Prop} {s : Shared} {h₀ : Heap} {L a b : Addr} {m : Str → Option Value} {news : List (Addr × Obj)} {vs us : List Value} {c c2 : Nat} {Q : Value → Shared → Prop}
    (F : Fr h₀ L s.heap m) (N : News h₀ L s.heap news) (ha : (a, listOf vs.toArray c) ∈ news) (hb : (b, listOf us.toArray c2) ∈ news) (hsz : vs.length + us.length ≤ 10000)
    (k : ∀ W h', Fr h₀ L h' m → News h₀ L h' ((W, listOf (vs ++ us).toArray 0) :: news) → (∀ p ∈ news, p.1 < W) → Q (.ref W) { s with heap := h' }) : wpAny (model prog w) A (binaryOp .Add (.ref a) (.ref b)) Q E s := by
  refine P.add_list (N.get ha) (N.get hb) ?_ (by rw [List.size_toArray, List.size_toArray, sizeLine_eq]; omega)
  rw [List.append_toArray]
  exact k _ _ (F.push _) (News.push F N _) fun p hp => Heap.lt_size (N p hp).1
theorem Fr.pl {g h : Heap} {L : Addr} {m b : Str → Option Value} (F : Fr g L h m) (e : ∀ y, y ≠ Str.ofString "place" → m y = b y) : Fr g L h (fun y => if y = Str.ofString "place" then m (Str.ofString "place") else b y) :=
  frCongr F fun y => by
    by_cases h1 : y = Str.ofString "place"
    · rw [if_pos h1, h1]
    · rw [if_neg h1]; exact e y h1
/-- what is known of a name's text that is to be read -/
structure Rd3 (y : Str) (ms : List Nat) : Prop where
  len : y.length ≤ 1000
  cut : (Txt.split y (Str.ofString "/")).length ≤ 1000
  reads : Reads (Txt.split y (Str.ofString "/")) ms
theorem read_law {w : World} {env : Env} {s : Shared} {Q E : Value → Shared → Prop} {x : Str} {t : Tok} {ms : List Nat} (h3 : Rd3 x ms) (G : Gnd w s.heap) (h : Back s Q (fun t => .str (mk ms) t)) :
    wpAny (model PP w) (callerA.deeper env) (call (.ref 215) [.str x t]) Q E s :=
  read_call h3.len h3.cut G (lessDepth (lawDepth env) (by decide)) (lessUnits (lawUnits env) (by decide)) h3.reads h
theorem octets_law {w : World} {env : Env} {s : Shared} {Q E : Value → Shared → Prop} {l : Addr} {vs : List Value} {c : Nat} {ths : List Thing} (hl : s.heap.get? l = some (listOf vs.toArray c)) (hv : Things vs ths) (hn : ths.length ≤ 60) (G : Gnd w s.heap) (h : Back s Q (fun t => .str (mk (octs ths)) t)) :
    wpAny (model PP w) (callerA.deeper env) (call (.ref 203) [.ref l]) Q E s :=
  octets_call hl hv hn G (lessDepth (lawDepth env) (by decide)) (lessUnits (lawUnits env) (by decide)) h
theorem octs_small (ths : List Thing) : ∀ c ∈ octs ths, c < 256 := fun c hc => by
  obtain ⟨th, _, h⟩ := List.mem_flatMap.mp hc
  unfold octOf at h
  split at h
  · simp at h; omega
  · split at h
    · simp at h
    · simp at h; omega
theorem rd_small (ths : List Thing) (n : Nat) (f : Nat → Nat) : Small ((List.range n).map fun i => mk ((octs ths).take ((octs ths).length - f i))) := fun y hy => by
  obtain ⟨i, _, rfl⟩ := List.mem_map.mp hy
  exact small_mk fun c hc => octs_small ths c (List.mem_of_mem_take hc)
theorem Small.app {a b : List Str} (ha : Small a) (hb : Small b) : Small (a ++ b) := fun y hy => by
  rcases List.mem_append.mp hy with q | q
  · exact ha y q
  · exact hb y q
theorem take_keep {xs ys : List Str} {j : Nat} {y : Str} (hy : xs[j]? = some y) (h : y ∉ ys) : (xs.take (j + 1)).filter (fun z => decide (z ∉ ys)) = (xs.take j).filter (fun z => decide (z ∉ ys)) ++ [y] := by
  rw [List.take_add_one, hy, Option.toList_some, List.filter_append, List.filter_cons, if_pos (by simp [h])]; rfl
theorem take_skip {xs ys : List Str} {j : Nat} {y : Str} (hy : xs[j]? = some y) (h : y ∈ ys) : (xs.take (j + 1)).filter (fun z => decide (z ∉ ys)) = (xs.take j).filter (fun z => decide (z ∉ ys)) := by
  rw [List.take_add_one, hy, Option.toList_some, List.filter_append, List.filter_cons, if_neg (by simp [h])]; simp
theorem Small.filter {a : List Str} (ha : Small a) (p : Str → Bool) : Small (a.filter p) := fun y hy => ha y (List.mem_filter.mp hy).1
theorem any_not {ys : List Str} {y : Str} (h : (ys.any (· == y)) = false) : y ∉ ys := by
  intro hm
  rw [List.any_eq_false] at h
  exact h y hm (by simp)
theorem any_yes {ys : List Str} {y : Str} (h : (ys.any (· == y)) = true) : y ∈ ys := by
  rw [List.any_eq_true] at h
  obtain ⟨z, hz, e⟩ := h
  rw [← eq_of_beq e]; exact hz
theorem sz_ok {a b : Nat} (h1 : a ≤ 1000) (h2 : b ≤ 1000) : a + b ≤ 10000 := by omega
theorem le_big {a b : Nat} (h : a ≤ b) (hb : b ≤ 16777216) : a ≤ sizeLine := by rw [sizeLine_eq]; exact Nat.le_trans h hb
theorem ekk {n j k : Nat} (hj : j + (k + 1) = n - 1) : (n : Int) - 1 + (j : Int) * (-1) = ((n - 1 - j : Nat) : Int) := by omega
theorem ekl {n j k : Nat} (hj : j + (k + 1) = n - 1) : n - 1 - j ≤ n ∧ n - 1 - j = n - (j + 1) := by omega
theorem nlt {j k n : Nat} (hj : j + (k + 1) = n) : j < n := by omega
theorem nlt2 {j k n m : Nat} (hj : j + (k + 1) = n) (h : n = m - 1) : j + 1 < m := by omega
theorem ab_step {a i n : Nat} (h : a ≤ 6 * i) (hn : n ≤ 6) : a + (n - 1) ≤ 6 * (i + 1) := by omega
theorem nm_step {a i n : Nat} (h : a ≤ i) : a + min 1 n ≤ i + 1 := by omega
theorem ab_le {a i n : Nat} (h : a ≤ 6 * i) (hi : i < n) (hn : n ≤ 20) : a ≤ 200 := by omega
theorem nm_le {a i n : Nat} (h : a ≤ i) (hi : i < n) (hn : n ≤ 20) : a ≤ 100 := by omega
theorem load_cell {M : Model} {A : Around} {E : Value → Shared → Prop} {s : Shared} {h₀ : Heap} {L a : Addr} {cn : Str} {cs : Scope} {ccd : Value} {cl : List (Str × Addr)} {x : Str} {v : Value} {Q : Value → Shared → Prop} {news : List (Addr × Obj)} {c : Addr} {o : Obj}
    (N : News h₀ L s.heap news) (hc : cl.lookup x = some c) (hm : (c, o) ∈ news) (hd : o.data = .cell (some v)) (h : Q v s) (hk : cs.kind = .function) (hx : (envX cn cs L a ccd cl).kindOf x = some .cell) :
    wpAny M A (loadName (envX cn cs L a ccd cl) x) Q E s := wpAny_loadName_cell hk hx hc ⟨o, N.get hm, hd⟩ h
theorem down_small (k : Nat) (h : k ≤ 6) : Builtin.Range.small ((k : Int) - 1) 0 (-1) = true := by
  have : k = 0 ∨ k = 1 ∨ k = 2 ∨ k = 3 ∨ k = 4 ∨ k = 5 ∨ k = 6 := by omega
  rcases this with rfl | rfl | rfl | rfl | rfl | rfl | rfl <;> decide
theorem down_size (k : Nat) (h : k ≤ 6) : Builtin.Range.rangeSize ((k : Int) - 1) 0 (-1) = ((k - 1 : Nat) : Int) := by
  have : k = 0 ∨ k = 1 ∨ k = 2 ∨ k = 3 ∨ k = 4 ∨ k = 5 ∨ k = 6 := by omega
  rcases this with rfl | rfl | rfl | rfl | rfl | rfl | rfl <;> decide
noncomputable def rd (ths : List Thing) (i : Nat) : List Nat := (octs ths).take ((octs ths).length - i)
theorem Fr.nm {g h : Heap} {L : Addr} {m : Str → Option Value} {v1 v2 : Value} (F : Fr g L h m) (e1 : m (Str.ofString "names") = some v1) (e2 : m (Str.ofString "above") = some v2) :
    Fr g L h (fun y => if y = Str.ofString "names" then some v1 else if y = Str.ofString "above" then some v2 else m y) :=
  frCongr F fun y => by
    by_cases h1 : y = Str.ofString "names"
    · rw [if_pos h1, h1]; exact e1
    · by_cases h2 : y = Str.ofString "above"
      · rw [if_neg h1, if_pos h2, h2]; exact e2
      · rw [if_neg h1, if_neg h2]
local macro_rules | `(tactic| walk_at "call ref") => `(tactic| ((with_reducible show wpAny _ _ (call (Value.ref 196) _) _ _ _); refine stop ?_))
local macro_rules | `(tactic| walk_at "exec For Name Call cons nil") => `(tactic| (k_here; k_dflt (refine' owit_for ?_; k_whole)))
local macro_rules | `(tactic| k_all) => `(tactic| with_reducible assumption)
local macro_rules | `(tactic| k_ne) => `(tactic| (refine neN ?_; (try dsimp only); first | assumption | exact Ne.symm (by assumption) | exact Nat.ne_of_lt (by assumption) | exact Nat.ne_of_gt (by assumption) | omega))
local macro_rules | `(tactic| walk_at "pyNext ref") => `(tactic| ((with_reducible show wpAny _ _ (pyNext (Value.ref _)) (OwitTurn _ _ _ _ _ _ _ _ _) _ _); k_here; k_dflt (first
  | (refine' lst_nextN ?F ?N ?U ?i ?t ?x ?_; (case F => k_asm); (case N => k_asm); (case U => k_updF); (case i => k_asm); (case t => exact News.get (by k_asm) (by k_mem)); (case x => assumption); intro h' o' F' N' hi'; (try dsimp only at N'))
  | (refine' lst_doneN rfl ?F ?N ?U ?D ?i ?t ?x ?_; (case F => k_asm); (case N => k_asm); (case U => k_updF); (case D => repeat (first | exact DropAt.here | refine' DropAt.there ?_)); (case i => k_asm); (case t => exact News.get (by k_asm) (by k_mem)); (case x => assumption); intro h' F' N'; (try dsimp only at N')))))
local macro_rules | `(tactic| walk_at "call ref") => `(tactic| ((with_reducible show wpAny _ _ (call (Value.ref 189) _) _ _ _); (refine unctrl_any (by assumption) (Gnd.keeps ⟨by assumption, _, _, _, by assumption⟩ (Fr.keep (by assumption))) ?k1 ?k2 (Back.of (by assumption) (by assumption) ?_)); (case k1 => exact lessDepth (lawDepth _) (by decide)); (case k2 => exact lessUnits (lawUnits _) (by decide)); intro t' h' tk' F' N'))
local macro_rules | `(tactic| walk_at "call ref") => `(tactic| ((with_reducible show wpAny _ _ (call (Value.ref 147) _) _ _ _); refine stop ?_))
local macro_rules | `(tactic| walk_at "call ref") => `(tactic| ((with_reducible show wpAny _ _ (call (Value.ref 119) _) _ _ _); refine stop ?_))
local macro_rules | `(tactic| walk_at "call type:list") => `(tactic| (refine stop ?_))
local macro_rules | `(tactic| walk_at "exec For Name BinOp cons nil") => `(tactic| (k_here; k_dflt (refine' owit_for ?_; k_whole)))
local macro_rules | `(tactic| walk_at "pyIter ref") => `(tactic| ((with_reducible show wpAny _ _ (pyIter (Value.ref _)) (OwitAt _ _ _ _ _ _ _ _) _ _); (refine stop ?_)))
local macro_rules | `(tactic| walk_at "binaryOp Add ref ref") => `(tactic| (refine stop ?_))
local macro_rules | `(tactic| walk_at "inplaceOp Add ref") => `(tactic| (refine stop ?_))
local macro_rules | `(tactic| walk_at "inplaceOp Add ref ref") => `(tactic| (refine stop ?_))
local macro_rules | `(tactic| walk_at "subscriptTail") => `(tactic| ((with_reducible show wpAny _ _ (subscriptTail _ (Expr.Slice none _ none _) (Value.ref _) (Value.ref _)) _ _ _); k_here; k_dflt (refine' row_cut ?F ?N ?m ?k ?x ?_; (case F => k_asm); (case N => k_asm); (case m => k_mem); (case k => first | assumption | omega); (case x => omega); intro D' h' F' N' l1)))
local macro_rules | `(tactic| walk_at "call ref") => `(tactic| ((with_reducible show wpAny _ _ (call (Value.ref 215) _) _ _ _); (refine read_law (by with_reducible assumption) (Gnd.keeps ⟨by assumption, _, _, _, by assumption⟩ (Fr.keep (by assumption))) (Back.of (by assumption) (by assumption) ?_)); intro t' h' tk' F' N'))
local macro_rules | `(tactic| walk_at "call ref") => `(tactic| ((with_reducible show wpAny _ _ (call (Value.ref 203) _) _ _ _); refine stop ?_))
local macro_rules | `(tactic| walk_at "loadName") => `(tactic| (k_here; k_dflt (refine' load_cell ?N ?c ?m ?d ?_ ?a ?b; (case a => rfl); (case b => rfl); (case N => k_asm); (case c => rfl); (case m => k_mem); (case d => k_asm); k_whole)))
local macro_rules | `(tactic| walk_at "call builtin:list.append") => `(tactic| ((show wpAny _ _ (call (Value.builtin "list.append") [Value.ref _, _]) _ _ _); k_here; k_dflt (refine' row_append ?F ?N ?U ?x ?_; (case F => k_asm); (case N => k_asm); (case U => k_updF); (case x => assumption); intro h' F' N'; (try dsimp only at N'))))
local macro_rules | `(tactic| walk_at "eval ListComp") => `(tactic| (k_here; (with_reducible show wpAny _ _ (eval (Expr.ListComp _ [⟨_, Expr.Call _ _ _ _, _, _⟩] _ _) _) _ _ _); k_dflt (refine ListComp_D (by k_asm) (by with_unfolding_all rfl) (by decide) (by rfl) (by decide) (by rfl) ?_)))
local macro_rules | `(tactic| walk_at "eval ListComp") => `(tactic| (k_here; (with_reducible show wpAny _ _ (eval (Expr.ListComp _ [⟨_, Expr.Name _ _, [_], _⟩] _ _) _) _ _ _); k_dflt (refine LCt.ListComp_T (F₀ := by k_asm) (by with_unfolding_all rfl) (by decide) (by rfl) (by decide) (by rfl) ?_)))
local macro_rules | `(tactic| walk_at "DownSrc") => `(tactic| (refine stop ?_))
local macro_rules | `(tactic| walk_at "compareOp NotEq ref ref") => `(tactic| (refine stop ?_))
local macro_rules | `(tactic| walk_at "compareOp Eq ref ref") => `(tactic| (refine stop ?_))
local macro_rules | `(tactic| walk_at "compareOp NotIn str ref") => `(tactic| (refine notin_list_strs (News.isList (by k_asm) (by k_mem)) (by assumption) ?_))
local macro_rules | `(tactic| walk_at "CompSrcT") => `(tactic| (refine stop ?_))
local macro_rules | `(tactic| walk_at "CompRestT") => `(tactic| (refine stop ?_))
local macro_rules | `(tactic| walk_at "call ref") => `(tactic| ((with_reducible show wpAny _ _ (call (Value.ref 154) _) _ _ _); refine stop ?_))
local macro_rules | `(tactic| walk_at "CompSrc") => `(tactic| (refine stop ?_))
local macro_rules | `(tactic| walk_at "CompRest") => `(tactic| (refine stop ?_))
local macro_rules | `(tactic| walk_at "OwitRest") => `(tactic| (refine stop ?_))
theorem main_ : PySem.Challenge.rw_ij0156_01.Holds := by
  w_on; o_law
  refine holds_open (q := hd.view_39) (loose := loose0) (Xt := fun s => xlAt hd.view_39 [] s && recOk (RowW.records PySem.Challenge.rw_ij0156_01.row.toRowW) s) (XP := XL hd.view_39 []) (Yf := hook.obs) (Ya := hook.val) (YP := hook.says) (N := 2730) Lf.left0 hook.of hook.keeps (fun s e => xl_of s (Bool.and_eq_true_iff.mp e).1) XL.keeps (by rfl) (by rfl) (by rfl) (fun s e => recFacts_of (Bool.and_eq_true_iff.mp e).2) (by rfl) (by first | assumption | decide +kernel) (by decide +kernel) ⟨rfl, rfl, rfl, rfl, rfl, by decide +kernel⟩ ?hw ?hc
  case hw => w_witness2
  rename_i said
  clear said
  intro w s₀ s₁ mg mb G Y fa o pm cd doc dV kV ho hdd hcd hD hmg hg args vals as hpre hlay hrd hwl hlo
  have KX := kIn_of Y
  have X := (Ground.X G).1
  have V := (Ground.X G).2
  refine Ground.open G ?_
  intro T B D TE TW
  try (refine guard_noD D (by decide +kernel) ?_; clear D)
  obtain ⟨_, _, M⟩ := bmod_of_top T
  have TA := at_of_top T
  try (obtain ⟨_, _, he, B0⟩ := based_of_top T rfl hmg ho hdd; have he' : cd = _ := he; subst he'; clear he)
  clear hmg
  wrow_args hpre hlay hrd hwl hlo
  all_goals (
    first | refine callC_kw (enter_call ?_) | refine enter_call ?_ | refine callC_kw (enter_callW ?_) | refine enter_callW ?_ | w_how
    w_top on
    refine codeAny_mono ?_ (fun _ _ g => endOk_good (by first | rfl | wrow_post) g)
    have K0 := below_caller (Top.heap T)
    w_call any ho hdd hcd hD T F
    clear hdd TA
    k_drop
    skip)
  clear hcd hD
  k_fold
  k_steps
  show wpAny _ _ _ _ _ _
  refine rows_newN (by assumption) (by assumption) (by omega) (Gnd.keeps ⟨by assumption, _, _, _, by assumption⟩ (Fr.keep (by assumption))) ?k1 ?k2 (by k_asm) (by k_asm) ?_
  case k1 => decide
  case k2 => decide
  intro R h₁ tk₁ vals cR rl rows F₁ N₁ neR nrR nqR hrr hrn
  dsimp only [List.cons_append, List.nil_append] at N₁
  refine lst_iterN F₁ N₁ (N₁.get (.head _)) ?_
  intro I h₂ oI F₂ N₂ lI hI
  refine OwitAt.intro ?_
  clear F₁ N₁
  rename_i o3 w1 w0 e3 e1 e0 X0 n0 hA lA hB a0 hC lB hD' dn hE lC hF o1 d1 da hG lD hH o2 F0 N0 d2
  clear F0 N0 X0 e1 e0 w1 w0
  have qda : ∀ p ∈ rl, p.1 ≠ da := nqR _ (.head _)
  have qdn : ∀ p ∈ rl, p.1 ≠ dn := nqR _ (.tail _ (.head _))
  have qa0 : ∀ p ∈ rl, p.1 ≠ a0 := nqR _ (.tail _ (.tail _ (.head _)))
  have qn0 : ∀ p ∈ rl, p.1 ≠ n0 := nqR _ (.tail _ (.tail _ (.tail _ (.head _))))
  have qo3 : ∀ p ∈ rl, p.1 ≠ s₁.heap.objs.size + 1 + 1 + 1 := nqR _ (.tail _ (.tail _ (.tail _ (.tail _ (.head _)))))
  have qo2 : ∀ p ∈ rl, p.1 ≠ s₁.heap.objs.size + 1 + 1 := nqR _ (.tail _ (.tail _ (.tail _ (.tail _ (.tail _ (.head _))))))
  have qI : ∀ p ∈ rl, p.1 ≠ I := fun p hp => Nat.ne_of_lt (lI p (.tail _ (.tail _ (.tail _ (.tail _ (.tail _ (.tail _ (.tail _ (.tail _ hp)))))))))
  have r1 : @Ne Nat da R := neR _ (.head _)
  have r2 : @Ne Nat dn R := neR _ (.tail _ (.head _))
  have r3 : @Ne Nat a0 R := neR _ (.tail _ (.tail _ (.head _)))
  have r4 : @Ne Nat n0 R := neR _ (.tail _ (.tail _ (.tail _ (.head _))))
  have r5 : @Ne Nat (s₁.heap.objs.size + 1 + 1 + 1) R := neR _ (.tail _ (.tail _ (.tail _ (.tail _ (.head _)))))
  have r6 : @Ne Nat (s₁.heap.objs.size + 1 + 1) R := neR _ (.tail _ (.tail _ (.tail _ (.tail _ (.tail _ (.head _))))))
  have r7 : @Ne Nat (s₁.heap.objs.size + 1) R := neR _ (.tail _ (.tail _ (.tail _ (.tail _ (.tail _ (.tail _ (.head _)))))))
  have i1 : @LT.lt Nat _ R I := lI _ (.head _)
  have i2 : @LT.lt Nat _ da I := lI _ (.tail _ (.head _))
  have i3 : @LT.lt Nat _ dn I := lI _ (.tail _ (.tail _ (.head _)))
  have i4 : @LT.lt Nat _ a0 I := lI _ (.tail _ (.tail _ (.tail _ (.head _))))
  have i5 : @LT.lt Nat _ n0 I := lI _ (.tail _ (.tail _ (.tail _ (.tail _ (.head _)))))
  have i6 : @LT.lt Nat _ (s₁.heap.objs.size + 1 + 1 + 1) I := lI _ (.tail _ (.tail _ (.tail _ (.tail _ (.tail _ (.head _))))))
  have i7 : @LT.lt Nat _ (s₁.heap.objs.size + 1 + 1) I := lI _ (.tail _ (.tail _ (.tail _ (.tail _ (.tail _ (.tail _ (.head _)))))))
  have i8 : @LT.lt Nat _ (s₁.heap.objs.size + 1) I := lI _ (.tail _ (.tail _ (.tail _ (.tail _ (.tail _ (.tail _ (.tail _ (.head _))))))))
  obtain ⟨A1, A2, A3⟩ := lA
  obtain ⟨B1, B2, B3, B4⟩ := lB
  obtain ⟨C1, C2, C3, C4, C5⟩ := lC
  obtain ⟨D1', D2', D3', D4', D5', D6'⟩ := lD
  clear nqR neR lI
  have hrl := hrr.length
  refine owit_ind (LawSt s₁.heap s₁.heap.objs.size n0 a0 dn da I R vals cR rl s₁) rows.length ?turn ?fin (by omega) ?start
  case start =>
    exact ⟨h₂, _, s₁.gens, _, oI, o1, o2, o3, #[], 0, #[], 0, #[], 0, #[], 0, [], [], _, rfl, F₂, rfl, rfl, N₂, hI, trivial, trivial, trivial, trivial, Nat.zero_le _, Nat.zero_le _, (fun _ h => nomatch h), (fun _ h => nomatch h), d1, d2, e3, .of_eq hg⟩
  case fin =>
    clear F₂ N₂ hI d1 d2 e3
    rintro k s' ⟨h, tk, gens, m, oJ, p1, p2, p3, x1, k1, x2, k2, x3, k3, x4, k4, nm, ab, v3, rfl, F, m1, m2, N, hJ, hx1, hx3, hx2, hx4, hnm, hab, snm, sab, c1, c2, c3, hbare⟩
    obtain ⟨y1, rfl⟩ : ∃ v : List Value, x1 = v.toArray := ⟨x1.toList, by simp⟩
    obtain ⟨y2, rfl⟩ : ∃ v : List Value, x2 = v.toArray := ⟨x2.toList, by simp⟩
    obtain ⟨y3, rfl⟩ : ∃ v : List Value, x3 = v.toArray := ⟨x3.toList, by simp⟩
    obtain ⟨y4, rfl⟩ : ∃ v : List Value, x4 = v.toArray := ⟨x4.toList, by simp⟩
    replace hx1 : Strs y1 nm := hx1
    replace hx2 : Strs y2 ab := hx2
    replace hx3 : Strs y3 nm := hx3
    replace hx4 : Strs y4 ab := hx4
    have F1 := Fr.nm F m1 m2
    refine OwitRest.succ ?_
    refine lst_doneN rfl F1 N (.head (by repeat (first | exact qI | refine List.forall_mem_cons.mpr ⟨by k_ne, ?_⟩))) .here hJ (N.get (.tail _ (.head _))) (by rw [Array.getElem?_eq_none (by rw [List.size_toArray, hrl]; exact Nat.le_refl _)]) ?_
    clear F F1 N
    intro hE FE NE
    dsimp only [OwitTurn]
    have hnl : nm.length ≤ 20 := Nat.le_trans hnm hrn
    have hal : ab.length ≤ 120 := Nat.le_trans hab (Nat.mul_le_mul_left 6 hrn)
    have a3 := hx3.are
    have a4 := hx4.are
    have nL : @LT.lt Nat _ s₁.heap.objs.size n0 := Nat.lt_of_le_of_lt (Nat.le_add_right _ 1) A3
    have aL : @LT.lt Nat _ s₁.heap.objs.size a0 := Nat.lt_trans nL B1
    k_steps
    show wpAny _ _ (compareOp _ _ _) _ _ _
    refine ne_strsK (News.isList NE (.tail _ (.tail _ (.tail _ (.tail _ (.head _)))))) (News.isList NE (.tail _ (.tail _ (.head _)))) hx1 hx3 snm (lessUnits (lawUnits _) (by decide)) ?_
    k_steps
    show wpAny _ _ (compareOp _ _ _) _ _ _
    refine ne_strsK (News.isList NE (.tail _ (.tail _ (.tail _ (.head _))))) (News.isList NE (.tail _ (.head _))) hx2 hx4 sab (lessUnits (lawUnits _) (by decide)) ?_
    k_steps
    show wpAny _ _ (call (Value.ref 154) _) _ _ _
    refine difference_newN (xs := nm) (ys := ab) FE (by assumption) NE (by assumption) rfl (by decide) (by decide) (.tail _ (.tail _ (.tail _ (.tail _ (.head _))))) hx1 (.tail _ (.tail _ (.tail _ (.head _)))) hx2 (Nat.le_trans hal (by decide)) ?_
    intro Dd Md dd xd Id hF tkF es ep ts FF NF lD0 lL lDM lMd ldx lxI sf
    k_steps
    show wpAny _ _ (call (Value.type "list") _) _ _ _
    refine list_filN rfl (by decide) (by decide) FF (by assumption) (by assumption) NF (.tail _ (.tail _ (.tail _ (.tail _ (.head _))))) lD0 nL lDM lMd ldx lxI sf hx1 (Nat.le_trans hnl (by decide)) ?_
    intro S1 hG tkG accG cG FG NG lS1 hS1
    clear FF NF FE NE
    obtain ⟨vG, rfl⟩ : ∃ v : List Value, accG = v.toArray := ⟨accG.toList, by simp⟩
    replace hS1 : Strs vG (nm.filter fun z => decide (z ∉ ab)) := hS1
    have hnl3 := hx3.length
    have hnl4 := hx4.length
    k_steps
    show LCt.CompSrcT _ _ _ _ _ _ _ _ _ _ _ _ _ _ _
    refine LCt.CompSrcT.ledger rfl FG NG (.tail _ (.tail _ (.tail _ (.head _)))) (by rw [List.size_toArray, hnl3]; exact le_big hnl (by decide)) ?_
    intro gT
    refine compT_ind (fun i ys => StrsAre ys ((nm.take i).filter fun z => decide (z ∉ ab))) _ .nil ?_ ?_
    · rintro k' j ys hj hs ihT
      rw [List.size_toArray] at hj
      refine LCt.CompRestT.succ ?_
      intro v I' oI' C' oC' D' m2 h2 tk2 E' hv' hC' hxv F2 N2 off2 ne2
      clear FG NG
      obtain ⟨y, hy⟩ : ∃ y, nm[j]? = some y := ⟨_, List.getElem?_eq_getElem (hnl3 ▸ nlt hj)⟩
      obtain ⟨t, ht⟩ := hx3.get hy
      rw [List.getElem?_toArray, ht] at hv'
      obtain rfl : Value.str y t = v := Option.some.inj hv'
      k_steps
      all_goals (rename Fr _ _ _ _ => F3; rename News _ _ _ _ => N3)
      all_goals first
        | (refine LCg.CompEnd.intro F3 N3 _ (fun p hp => hp) off2 (.inr ⟨_, .tail _ (.tail _ (.tail _ (.head _))), rfl, _, rfl⟩) (ihT (ys ++ [Value.str y t]) ?_)
           rw [take_keep hy (any_not (by first | assumption | simpa using ‹_›))]
           exact strsAre_snoc hs)
        | (refine LCg.CompEnd.intro F3 N3 _ (fun p hp => hp) off2 (.inr ⟨_, .tail _ (.tail _ (.tail _ (.head _))), rfl, _, rfl⟩) (ihT ys ?_)
           rw [take_skip hy (any_yes (by first | assumption | simpa using ‹_›))]
           exact hs)
    · intro ys hs D h2 tk2 F2 N2 off2
      rw [List.size_toArray, hnl3, List.take_length] at hs
      clear FG NG
      k_steps
      show wpAny _ _ (compareOp _ _ _) _ _ _
      refine ne_strsK (News.isList N2 (.tail _ (.head _))) (News.isList N2 (.head _)) hS1 (Strs.of hs) (snm.filter _) (lessUnits (lawUnits _) (by decide)) ?_
      have NX := News.sub N2 (fun p hp => List.mem_cons_of_mem _ (List.mem_cons_of_mem _ hp))
      clear N2 off2 lS1 hs hS1
      k_steps
      show wpAny _ _ (call (Value.ref 154) _) _ _ _
      refine difference_newN (xs := ab) (ys := nm) F2 (by assumption) NX (by assumption) rfl (by decide) (by decide) (.tail _ (.tail _ (.tail _ (.head _)))) hx2 (.tail _ (.tail _ (.tail _ (.tail _ (.head _))))) hx1 (Nat.le_trans hnl (by decide)) ?_
      intro Dd Md dd xd Id hF tkF es ep ts FF NF lD0 lL lDM lMd ldx lxI sf
      k_steps
      show wpAny _ _ (call (Value.type "list") _) _ _ _
      refine list_filN rfl (by decide) (by decide) FF (by assumption) (by assumption) NF (.tail _ (.tail _ (.tail _ (.head _)))) lD0 aL lDM lMd ldx lxI sf hx2 (Nat.le_trans hal (by decide)) ?_
      intro S1 hG tkG accG cG FG NG lS1 hS1
      clear FF NF F2 NX
      obtain ⟨vG, rfl⟩ : ∃ v : List Value, accG = v.toArray := ⟨accG.toList, by simp⟩
      replace hS1 : Strs vG (ab.filter fun z => decide (z ∉ nm)) := hS1
      k_steps
      show LCt.CompSrcT _ _ _ _ _ _ _ _ _ _ _ _ _ _ _
      refine LCt.CompSrcT.ledger rfl FG NG (.tail _ (.tail _ (.head _))) (by rw [List.size_toArray, hnl4]; exact le_big hal (by decide)) ?_
      intro gT
      refine compT_ind (fun i ys => StrsAre ys ((ab.take i).filter fun z => decide (z ∉ nm))) _ .nil ?_ ?_
      · rintro k' j ys hj hs ihT
        rw [List.size_toArray] at hj
        refine LCt.CompRestT.succ ?_
        intro v I' oI' C' oC' D' m2 h2 tk2 E' hv' hC' hxv F2 N2 off2 ne2
        clear FG NG
        obtain ⟨y, hy⟩ : ∃ y, ab[j]? = some y := ⟨_, List.getElem?_eq_getElem (hnl4 ▸ nlt hj)⟩
        obtain ⟨t, ht⟩ := hx4.get hy
        rw [List.getElem?_toArray, ht] at hv'
        obtain rfl : Value.str y t = v := Option.some.inj hv'
        k_steps
        all_goals (rename Fr _ _ _ _ => F3; rename News _ _ _ _ => N3)
        all_goals first
          | (refine LCg.CompEnd.intro F3 N3 _ (fun p hp => hp) off2 (.inr ⟨_, .tail _ (.tail _ (.head _)), rfl, _, rfl⟩) (ihT (ys ++ [Value.str y t]) ?_)
             rw [take_keep hy (any_not (by first | assumption | simpa using ‹_›))]
             exact strsAre_snoc hs)
          | (refine LCg.CompEnd.intro F3 N3 _ (fun p hp => hp) off2 (.inr ⟨_, .tail _ (.tail _ (.head _)), rfl, _, rfl⟩) (ihT ys ?_)
             rw [take_skip hy (any_yes (by first | assumption | simpa using ‹_›))]
             exact hs)
      · intro ys hs D h2 tk2 F2 N2 off2
        rw [List.size_toArray, hnl4, List.take_length] at hs
        clear FG NG
        k_steps
        show wpAny _ _ (compareOp _ _ _) _ _ _
        refine eq_strsK (News.isList N2 (.tail _ (.head _))) (News.isList N2 (.head _)) hS1 (Strs.of hs) (sab.filter _) (lessUnits (lawUnits _) (by decide)) ?_
        k_steps
        exact ⟨rfl, F2.keep, rfl, hbare⟩
  case turn =>
    rintro k i s' hi ⟨h, tk, gens, m, oJ, p1, p2, p3, x1, k1, x2, k2, x3, k3, x4, k4, nm, ab, v3, rfl, F, m1, m2, N, hJ, hx1, hx3, hx2, hx4, hnm, hab, snm, sab, c1, c2, c3, hbare⟩ ih
    clear F₂ N₂ hI d1 d2 e3
    obtain ⟨ra, xs, cr, hv, hra, hth, h6⟩ := hrr.get hi
    have hix : vals.toArray[i]? = some (.ref ra) := by rw [List.getElem?_toArray]; exact hv
    have zra := N (ra, listOf xs.toArray cr) (.tail _ (.tail _ (.tail _ (.tail _ (.tail _ (.tail _ (.tail _ (.tail _ (.tail _ hra)))))))))
    have F1 := Fr.nm F m1 m2
    have N1 : News s₁.heap s₁.heap.objs.size h ((ra, listOf xs.toArray cr) :: (I, oJ) :: (R, listOf vals.toArray cR) :: (da, listOf x4 k4) :: (dn, listOf x3 k3) :: (a0, listOf x2 k2) :: (n0, listOf x1 k1) :: (s₁.heap.objs.size + 1 + 1 + 1, p3) :: (s₁.heap.objs.size + 1 + 1, p2) :: (s₁.heap.objs.size + 1, p1) :: rl) := fun p hp => by
      rcases List.mem_cons.mp hp with rfl | hp
      · exact zra
      · exact N p hp
    clear F N
    have u1 : @Ne Nat ra I := qI _ hra
    have u2 : @Ne Nat ra da := qda _ hra
    have u3 : @Ne Nat ra dn := qdn _ hra
    have u4 : @Ne Nat ra a0 := qa0 _ hra
    have u5 : @Ne Nat ra n0 := qn0 _ hra
    have u6 : @Ne Nat ra (s₁.heap.objs.size + 1 + 1 + 1) := qo3 _ hra
    have u7 : @Ne Nat ra (s₁.heap.objs.size + 1 + 1) := qo2 _ hra
    generalize rows[i] = ths at hth h6
    refine OwitRest.succ ?_
    k_steps
    show LCg.CompSrc _ _ _ _ _ _ _ _ _ _ _ _ _ _
    rename_i hA1 oI1 hI1 hA2 FA NA
    (try clear N1); (try clear F1); clear zra hJ
    obtain ⟨all, RL⟩ := row_law ths h6
    have hxl := hth.length
    refine LCg.CompSrc.ledger rfl FA NA (.head _) ?sz ?_
    case sz => rw [List.size_toArray, hxl]; exact le_big h6 (by decide)
    intro gA
    refine comp_ind (fun j ys => StrsAre ys ((ths.take j).map fun th => mk (uText th.bits))) _ ?h0 ?turnA ?finA
    case h0 => exact .nil
    case turnA =>
      rintro k' j ys hj hs ihA
      rw [List.size_toArray] at hj
      have hjl : j < ths.length := hxl ▸ nlt hj
      refine LCg.CompRest.succ ?_
      intro v I' oI' C' oC' D' m2 h2 tk2 E' hv' hC' hx2 F2 N2 off2 ne2
      obtain ⟨v', hv1, hv2⟩ := hth.get (List.getElem?_eq_getElem hjl)
      rw [List.getElem?_toArray, hv1] at hv'
      obtain rfl : v' = v := Option.some.inj hv'
      generalize hth2 : ths[j] = th at hv2
      clear FA NA
      k_steps
      rename Fr _ _ _ _ => F3
      rename News _ _ _ _ => N3
      refine LCg.CompEnd.intro F3 N3 _ (fun p hp => hp) off2 (.inr ⟨_, .head _, rfl, _, rfl⟩) (ihA _ ?_)
      rw [List.take_add_one, List.getElem?_eq_getElem hjl, hth2, Option.toList_some, List.map_append]
      exact strsAre_snoc hs
    case finA =>
      intro ys hs D h2 tk2 F2 N2 off2
      rw [List.size_toArray, hxl, List.take_length] at hs
      clear FA NA
      have hsw := sum_words ths
      k_steps
      show wpAny _ _ _ _ _ _
      refine join_listW (News.isList N2 (.head _)) hs (by decide) (by rw [List.length_map]; exact Nat.le_trans (Nat.add_le_add (Nat.le_trans hsw (Nat.mul_le_mul_left 3 h6)) h6) (by decide)) ?_
      intro tj kj
      have NB := News.sub N2 (fun p hp => List.mem_cons_of_mem _ hp)
      clear N2 off2 hs hsw
      generalize Txt.join (Str.ofString "/") (ths.map fun th => mk (uText th.bits)) = path at RL ⊢
      have hpl : path.length ≤ 1000 := Nat.le_trans RL.len (by decide)
      k_steps
      show wpAny _ _ (call (Value.ref 147) _) _ _ _
      rename Fr _ _ _ _ => FB
      rename News _ _ _ _ => NB
      refine ancestry_new rfl (Nat.le_trans (lawDepthLe _) (by decide)) (Nat.le_trans (lawUnitsLe _) (by decide)) hpl RL.outs head_len rstrip_len FB NB ⟨by assumption, _, _, _, by assumption⟩ (gb := s₁.heap) ⟨by assumption, _, _, _, by assumption⟩ (fun _ _ e => e) (Nat.le_refl _) ?_
      clear FB NB
      intro Lg a hB tkB gsB oLB nmB qnB FB NB l1 l2 l3 hbB goB
      k_steps
      show wpAny _ _ (call (Value.type "list") _) _ _ _
      have hall : all.length ≤ 6 := by
        rw [RL.cnt]; exact Nat.le_trans (octs_len ths) h6
      refine list_ancN (gs := gsB) (all := all) rfl (Nat.le_trans (lawDepthLe _) (by decide)) (Nat.le_trans (lawUnitsLe _) (by decide)) FB NB l1 l2 (gb := s₁.heap) ⟨by assumption, _, _, _, by assumption⟩ (fun _ _ e => e) (NB.fresh (.tail _ (.head _))) (Nat.le_refl _) (Array.getElem?_push_size ..) goB (Nat.le_trans hall (by decide)) ?_
      intro wa hB2 tkB2 gensB accB cB FB2 NB2 lwa hwa gqB
      have hbare2 : AllBare gensB := (hbare.push hbB).moved gqB
      clear FB NB goB gqB hbB l1 l2 l3 hbare
      k_steps
      show wpAny _ _ (call (Value.ref 119) _) _ _ _
      obtain ⟨vB, rfl⟩ : ∃ vB : List Value, accB = vB.toArray := ⟨accB.toList, by simp⟩
      replace hwa : Strs vB all := hwa
      have hvB := hwa.length
      rename Fr _ _ _ _ => FB
      rename News _ _ _ _ => NB
      refine parents_newN (all := all) (gb := s₁.heap) hpl RL.outs FB (by assumption) NB (by assumption) rfl (by decide) (by decide) ⟨by assumption, _, _, _, by assumption⟩ (fun _ _ e => e) (Nat.le_refl _) ?_
      clear FB NB
      intro Lg2 a2 d2 x2' hC tkC gsC oLC nmC qnC t1 t2 t3 t4 FB NB l1 l2 l3 l4 l5 l6 hbC goC
      k_steps
      show wpAny _ _ (call (Value.type "list") _) _ _ _
      refine list_islN (gs := gsC) (all := all) (gb := s₁.heap) rfl (by decide) (by decide) FB (by assumption) (by assumption) NB l1 l3 l4 l5 l6 ⟨by assumption, _, _, _, by assumption⟩ (fun _ _ e => e) (NB.fresh (.tail _ (.tail _ (.tail _ (.head _))))) (Array.getElem?_push_size ..) goC (Nat.le_trans hall (by decide)) ?_
      intro ha hC2 tkC2 gensC accC cC FB2 NB2 lha hha gqC
      have hbare3 : AllBare gensC := (hbare2.push hbC).moved gqC
      clear FB NB goC gqC hbC l1 l2 l3 l4 l5 l6 hbare2
      obtain ⟨vC, rfl⟩ : ∃ vC : List Value, accC = vC.toArray := ⟨accC.toList, by simp⟩
      replace hha : Strs vC (all.drop 1) := hha
      have hvC := hha.length
      rw [List.length_drop] at hvC
      k_steps
      show wpAny _ _ (binaryOp _ _ _) _ _ _
      rename Fr _ _ _ _ => FB
      rename News _ _ _ _ => NB
      refine add_newN FB NB (.tail _ (.head _)) (.head _) (sz_ok (by rw [hvB]; exact Nat.le_trans hall (by decide)) (by rw [hvC]; exact Nat.le_trans (Nat.sub_le _ _) (Nat.le_trans hall (by decide)))) ?_
      clear FB NB
      intro W hD FB NB lW
      k_steps
      show wpAny _ _ (pyIter _) _ _ _
      refine lst_iterN FB NB (NB.get (.head _)) ?_
      intro J hD2 oD FD ND lJ hJt
      clear FB NB
      refine OwitAt.intro ?_
      have hWS : Strs (vB ++ vC) (all ++ all.drop 1) := hwa.app hha
      have hWl : (vB ++ vC).length ≤ 12 := by rw [List.length_append, hvB, hvC]; exact Nat.add_le_add hall (Nat.le_trans (Nat.sub_le _ _) hall)
      obtain ⟨mB, FD, emB⟩ : ∃ mB, Fr _ _ hD2 mB ∧ mB = _ := ⟨_, FD, rfl⟩
      obtain ⟨bl, ND, ebl⟩ : ∃ bl, News _ _ hD2 ((J, oD) :: bl) ∧ bl = _ := ⟨_, ND, rfl⟩
      have hWm : (W, listOf (vB ++ vC).toArray 0) ∈ bl := by rw [ebl]; exact .head _
      have qJ : ∀ p ∈ bl, p.1 ≠ J := fun p hp => Nat.ne_of_lt (lJ p (by rw [← ebl]; exact hp))
      refine owit_ind (fun j s => ∃ h tk oJ vp, s = { s₁ with heap := h, gens := gensC, toks := tk } ∧ Fr s₁.heap s₁.heap.objs.size h (fun y => if y = Str.ofString "place" then vp else mB y) ∧ News s₁.heap s₁.heap.objs.size h ((J, oJ) :: bl) ∧ LitIt oJ W j) (vB ++ vC).length ?turnD ?finD (by omega) ?startD
      case startD =>
        exact ⟨_, _, oD, _, rfl, Fr.pl FD (fun y _ => rfl), ND, hJt⟩
      case turnD =>
        rintro k' j s' hj ⟨h, tk, oJ, vp, rfl, F, N, hJj⟩ ihD
        clear FD ND hJt
        obtain ⟨y, t, hjy, hjt⟩ : ∃ y t, (all ++ all.drop 1)[j]? = some y ∧ (vB ++ vC)[j]? = some (.str y t) := by
          obtain ⟨t, ht⟩ := hWS.get (List.getElem?_eq_getElem (by rw [← hWS.length]; exact hj))
          exact ⟨_, t, List.getElem?_eq_getElem (by rw [← hWS.length]; exact hj), ht⟩
        have hya : y ∈ all := by
          rcases List.mem_append.mp (List.mem_of_getElem? hjy) with q | q
          · exact q
          · exact List.mem_of_mem_drop q
        obtain ⟨z1, z2, z3, z4⟩ := RL.pre y hya
        refine OwitRest.succ ?_
        refine lst_nextN F N (.head qJ) hJj (N.get (.tail _ hWm)) (by rw [List.getElem?_toArray]; exact hjt) ?_
        clear F N
        intro h' o' F N hJj
        subst emB
        dsimp only [OwitTurn]
        k_steps
        all_goals first
          | (exfalso; exact absurd ‹(Txt.slice path none (some (y.length : Int)) != y) = true› (by simp [z1]))
          | (exfalso; exact absurd ‹(Txt.slice y (some (-1)) none == Str.ofString "/") = true› (by simp [z2]))
          | skip
        show OwitRest _ _ _ _ _ _ _ _ _ _ _
        rename Fr _ _ _ _ => F3
        rename News _ _ _ _ => N3
        exact ihD _ ⟨_, _, _, _, rfl, Fr.pl F3 (fun z q => by rw [if_neg q, if_neg q]), N3, hJj⟩
      case finD =>
        rintro k' s' ⟨h, tk, oJ, vp, rfl, F, N, hJj⟩
        clear FD ND hJt
        refine OwitRest.succ ?_
        refine lst_doneN rfl F N (.head qJ) .here hJj (N.get (.tail _ hWm)) (by rw [Array.getElem?_eq_none (by rw [List.size_toArray]; exact Nat.le_refl _)]) ?_
        clear F N
        intro hE FE NE
        subst emB
        subst ebl
        have NE2 := News.sub NE (fun p hp => List.mem_cons_of_mem _ hp)
        clear NE
        dsimp only [OwitTurn]
        clear hWm qJ hWS hWl lJ hJj lW
        k_lt lwa
        k_lt lha
        obtain ⟨w1, w2, w3, w4, w5, w6, w7, w8, w9, w10, _⟩ := lwa
        obtain ⟨g1, g2, g3, g4, g5, g6, g7, g8, g9, g10, g11, _⟩ := lha
        k_steps
        show LCg.CompSrc _ _ _ _ _ _ _ _ _ _ _ _ _ _
        rename Fr _ _ _ _ => FE1
        rename News _ _ _ _ => NE1
        rw [pick_upto (by decide)] at NE1
        have hRd : ∀ i y, all[i]? = some y → Rd3 y (rd ths i) := fun i y hy => by
          obtain ⟨_, _, z3, z4⟩ := RL.pre y (List.mem_of_getElem? hy)
          exact ⟨Nat.le_trans z3 (by decide), Nat.le_trans z4 (by decide), RL.reads i y hy⟩
        refine LCg.CompSrc.ledger rfl FE1 NE1 (.head _) ?sz ?_
        case sz => rw [List.size_toArray, List.length_take]; exact le_big (Nat.min_le_left _ _) (by decide)
        intro gE
        refine comp_ind (fun j ys => StrsAre ys ((List.range j).map fun i => mk (rd ths i))) _ ?h0 ?turnE ?finE
        case h0 => exact .nil
        case turnE =>
          rintro k' j ys hj hs ihE
          rw [List.size_toArray] at hj
          refine LCg.CompRest.succ ?_
          intro v I' oI' C' oC' D' m2 h2 tk2 E' hv' hC' hx2 F2 N2 off2 ne2
          clear FE1 NE1
          have hjl : j < (all.take 1).length := by rw [← (hwa.take 1).length]; have : (1 : Int).toNat = 1 := rfl; rw [this] at hj; omega
          obtain ⟨y, hy⟩ : ∃ y, (all.take 1)[j]? = some y := ⟨_, List.getElem?_eq_getElem hjl⟩
          obtain ⟨t, ht⟩ := (hwa.take 1).get hy
          have hyj : all[j]? = some y := by
            rw [← hy, List.getElem?_take]
            rw [List.length_take] at hjl
            rw [if_pos (by omega)]
          rw [List.getElem?_toArray, show (1 : Int).toNat = 1 from rfl, ht] at hv'
          obtain rfl : Value.str y t = v := Option.some.inj hv'
          have y3 := hRd _ _ hyj
          k_steps
          rename Fr _ _ _ _ => F3
          rename News _ _ _ _ => N3
          refine LCg.CompEnd.intro F3 N3 _ (fun p hp => hp) off2 (.inr ⟨_, .head _, rfl, _, rfl⟩) (ihE _ ?_)
          rw [List.range_succ, List.map_append]
          exact strsAre_snoc hs
        case finE =>
          intro ys hs D h2 tk2 F2 N2 off2
          clear FE1 NE1
          simp only [LCg.Off1, and_true] at off2
          obtain ⟨e1, e2, e3, e4, e5, e6, e7, e8, e9, e10, e11, e12, e13, _⟩ := off2
          have hsE : Strs ys ((List.range (all.take 1).length).map fun i => mk (rd ths i)) := by
            have : (vB.take (1 : Int).toNat).toArray.size = (all.take 1).length := by rw [List.size_toArray]; exact (hwa.take 1).length
            rw [← this]; exact Strs.of hs
          have hyl := hsE.length
          rw [List.length_map, List.length_range, List.length_take] at hyl
          have hx1l : x1.size ≤ 100 := by rw [← Array.length_toList, hx1.length]; exact nm_le hnm hi hrn
          have NE2 := News.sub N2 (a := (D, LCg.lst ys) :: _) (fun p hp => by
            rcases List.mem_cons.mp hp with q | q
            · exact q ▸ .head _
            · exact .tail _ (.tail _ q))
          clear N2 hs
          k_steps
          show wpAny _ _ (inplaceOp _ _ _) _ _ _
          rename Fr _ _ _ _ => FE1
          refine' iadd_listN (acc2 := ys.toArray) FE1 NE2 ?U (.head _) ?sz ?_
          case U => k_updF
          case sz => exact sz_ok (Nat.le_trans hx1l (by decide)) (by show ys.length ≤ 1000; rw [hyl]; exact Nat.le_trans (Nat.min_le_left _ _) (by decide))
          intro hF cn1 FF NF
          (try dsimp only at NF)
          have NF2 := News.sub NF (fun p hp => List.mem_cons_of_mem _ hp)
          have hx1' : Strs (x1 ++ ys.toArray).toList (nm ++ (List.range (all.take 1).length).map fun i => mk (rd ths i)) := by
            rw [Array.toList_append]; exact hx1.app hsE
          clear NF FE1 NE2 hx1l
          k_steps
          show LCg.CompSrc _ _ _ _ _ _ _ _ _ _ _ _ _ _
          rename Fr _ _ _ _ => FE1
          rename News _ _ _ _ => NE1
          refine LCg.CompSrc.ledger rfl FE1 NE1 (.head _) ?sz ?_
          case sz => rw [List.size_toArray, hvC]; exact le_big (Nat.le_trans (Nat.sub_le _ _) hall) (by decide)
          intro gF
          refine comp_ind (fun j ys => StrsAre ys ((List.range j).map fun i => mk (rd ths (i + 1)))) _ ?h0 ?turnF ?finF
          case h0 => exact .nil
          case turnF =>
            rintro k' j ys2 hj hs ihE
            rw [List.size_toArray] at hj
            refine LCg.CompRest.succ ?_
            intro v I' oI' C' oC' D' m2 h2 tk2 E' hv' hC' hx2 F2 N2 off2 ne2
            clear FE1 NE1
            have hjl : j + 1 < all.length := nlt2 hj hvC
            obtain ⟨y, hyj⟩ : ∃ y, all[j + 1]? = some y := ⟨_, List.getElem?_eq_getElem hjl⟩
            obtain ⟨t, ht⟩ := hha.get (i := j) (y := y) (by rw [List.getElem?_drop, Nat.add_comm]; exact hyj)
            rw [List.getElem?_toArray, ht] at hv'
            obtain rfl : Value.str y t = v := Option.some.inj hv'
            have y3 := hRd _ _ hyj
            k_steps
            rename Fr _ _ _ _ => F3
            rename News _ _ _ _ => N3
            refine LCg.CompEnd.intro F3 N3 _ (fun p hp => hp) off2 (.inr ⟨_, .head _, rfl, _, rfl⟩) (ihE _ ?_)
            rw [List.range_succ, List.map_append]
            exact strsAre_snoc hs
          case finF =>
            intro ys2 hs D2 h2 tk2 F2 N2 off2
            clear FE1 NE1
            simp only [LCg.Off1, and_true] at off2
            obtain ⟨e1, e2, e3, e4, e5, e6, e7, e8, e9, e10, e11, e12, _⟩ := off2
            have hsF : Strs ys2 ((List.range (all.length - 1)).map fun i => mk (rd ths (i + 1))) := by
              rw [List.size_toArray, hvC] at hs
              exact Strs.of hs
            have hyl2 := hsF.length
            rw [List.length_map, List.length_range] at hyl2
            have hx2l : x2.size ≤ 200 := by rw [← Array.length_toList, hx2.length]; exact ab_le hab hi hrn
            clear hs
            k_steps
            show wpAny _ _ (inplaceOp _ _ _) _ _ _
            rename Fr _ _ _ _ => FE1
            rename News _ _ _ _ => NE1
            refine' iadd_listN (acc2 := ys2.toArray) FE1 NE1 ?U (.head _) ?sz ?_
            case U => k_updF
            case sz => exact sz_ok (Nat.le_trans hx2l (by decide)) (by show ys2.length ≤ 1000; rw [hyl2]; exact Nat.le_trans (Nat.sub_le _ _) (Nat.le_trans hall (by decide)))
            intro hG ca1 FG NG
            (try dsimp only at NG)
            have NG2 := News.sub NG (fun p hp => List.mem_cons_of_mem _ hp)
            have hx2' : Strs (x2 ++ ys2.toArray).toList (ab ++ (List.range (all.length - 1)).map fun i => mk (rd ths (i + 1))) := by
              rw [Array.toList_append]; exact hx2.app hsF
            clear NG FE1 NE1 hx2l
            k_steps
            show wpAny _ _ (call (Value.ref 203) _) _ _ _
            rename Fr _ _ _ _ => FE1
            rename News _ _ _ _ => NE1
            have NH := News.sub NE1 (fun p hp => List.mem_cons_of_mem _ (List.mem_cons_of_mem _ hp))
            clear NE1
            refine octets_law (NH.get (.head _)) hth (Nat.le_trans h6 (by decide)) (Gnd.keeps ⟨by assumption, _, _, _, by assumption⟩ (Fr.keep (by assumption))) (Back.of FE1 NH ?_)
            clear FE1 NH
            intro tH hH tkH FH NH
            have hocl : (mk (octs ths)).length ≤ 6 := by rw [mk_len]; exact Nat.le_trans (octs_len ths) h6
            obtain ⟨oc, hoc⟩ : ∃ oc : Str, oc = mk (octs ths) := ⟨_, rfl⟩
            rw [← hoc] at hocl ⊢
            have hx3l : x3.size ≤ 1000 := by rw [← Array.length_toList, hx3.length]; exact Nat.le_trans (nm_le hnm hi hrn) (by decide)
            have hnN : oc ≠ Str.ofString "" → (List.range (all.take 1).length).map (fun i => mk (rd ths i)) = [oc] := fun hne => by
              have h0 : (octs ths).length ≠ 0 := fun e => hne (by rw [hoc, List.length_eq_zero_iff.mp e]; rfl)
              have h1 : (all.take 1).length = 1 := by rw [List.length_take, RL.cnt]; omega
              rw [h1, hoc]
              show [mk (rd ths 0)] = _
              simp [rd]
            have hnE : oc = Str.ofString "" → (List.range (all.take 1).length).map (fun i => mk (rd ths i)) = [] := fun he => by
              have h0 : octs ths = [] := mk_inj (b := []) (hoc.symm.trans (he.trans empty_))
              have h1 : (all.take 1).length = 0 := by rw [List.length_take, RL.cnt, h0]; simp
              rw [h1]; rfl
            have hol : oc.length = all.length := by rw [RL.cnt, hoc, mk_len]
            k_steps
            all_goals show DownSrc _ _ _ _ _ _ _ _ _ _ _ _ _ _
            all_goals rename Fr _ _ _ _ => FI
            all_goals rename News _ _ _ _ => NI
            all_goals rename IsRange _ _ _ _ _ _ _ _ => hRg
            have hx3' : Strs (x3.push (.str oc tH)).toList (nm ++ (List.range (all.take 1).length).map fun i => mk (rd ths i)) := by
              rw [Array.toList_push, hnN (by simpa using ‹(oc != Str.ofString "") = true›)]
              exact hx3.snoc
            rotate_left
            have hx3' : Strs x3.toList (nm ++ (List.range (all.take 1).length).map fun i => mk (rd ths i)) := by
              rw [hnE (by simpa using ‹(oc != Str.ofString "") = false›), List.append_nil]
              exact hx3
            rotate_left
            all_goals clear hnN hnE
            all_goals (refine ⟨_, _, _, _, _, _, _, oc.length - 1, _, rfl, rfl, FI, NI, hRg, down_small _ hocl, down_size _ hocl, (le_big (Nat.le_trans (Nat.sub_le _ _) hocl) (by decide)), ?_⟩)
            all_goals (rintro s₂ ⟨gI, rfl⟩)
            all_goals (refine comp_ind (fun j ys => StrsAre ys ((List.range j).map fun i => mk (rd ths (i + 1)))) _ .nil ?_ ?_)
            all_goals clear FI NI
            all_goals first
              | (rintro k' j ys3 hj hs ihE
                 refine LCg.CompRest.succ ?_
                 intro v I' oI' C' oC' D' m2 h2 tk2 E' hv' hC' hxv F2 N2 off2 ne2
                 obtain ⟨_, t, rfl⟩ := hv'
                 have ekk := ekk hj
                 rw [ekk] at hxv
                 k_steps
                 rename Fr _ _ _ _ => F3
                 rename News _ _ _ _ => N3
                 refine LCg.CompEnd.intro F3 N3 _ (fun p hp => hp) off2 trivial (ihE _ ?_)
                 rw [List.range_succ, List.map_append]
                 have es : Txt.slice oc none (some ((oc.length - 1 - j : Nat) : Int)) = mk (rd ths (j + 1)) := by
                   have hl : oc.length = (octs ths).length := by rw [hoc, mk_len]
                   rw [hl] at hj
                   rw [hl, hoc, slice_to (ekl hj).1, rd, (ekl hj).2]
                 rw [es]
                 exact strsAre_snoc hs)
              | skip
            all_goals (
              intro ys3 hs D3 h2 tk2 F2 N2 off2
              simp only [LCg.Off1, and_true] at off2
              obtain ⟨e1, e2, e3, e4, e5, e6, e7, e8, e9, e10, _⟩ := off2
              have hsI : Strs ys3 ((List.range (all.length - 1)).map fun i => mk (rd ths (i + 1))) := by rw [← hol]; exact Strs.of hs
              have hyl3 := hsI.length
              rw [List.length_map, List.length_range] at hyl3
              have hx4l : x4.size ≤ 200 := by rw [← Array.length_toList, hx4.length]; exact ab_le hab hi hrn
              clear hs
              k_steps
              show wpAny _ _ (inplaceOp _ _ _) _ _ _
              rename Fr _ _ _ _ => FE1
              rename News _ _ _ _ => NE1
              refine iadd_listN (acc2 := ys3.toArray) FE1 NE1 (by k_updF) (.head _) (sz_ok (Nat.le_trans hx4l (by decide)) (by show ys3.length ≤ 1000; rw [hyl3]; exact Nat.le_trans (Nat.sub_le _ _) (Nat.le_trans hall (by decide)))) ?_
              intro hK ca4 FK NK
              (try dsimp only at NK)
              have NK2 := News.sub NK (fun p hp => List.mem_cons_of_mem _ hp)
              have hx4' : Strs (x4 ++ ys3.toArray).toList (ab ++ (List.range (all.length - 1)).map fun i => mk (rd ths (i + 1))) := by
                rw [Array.toList_append]; exact hx4.app hsI
              clear NK FE1 NE1 hx4l
              k_steps
              show OwitRest _ _ _ _ _ _ _ _ _ _ _)
            all_goals (
              rename Fr _ _ _ _ => FZ
              rename News _ _ _ _ => NZ
              have NZ2 := News.sub NZ (fun p hp => List.mem_cons_of_mem _ hp)
              exact ih _ ⟨_, _, gensC, _, oI1, _, _, _, _, _, _, _, _, _, _, _, _, _, _, rfl, FZ, rfl, rfl, NZ2, hI1, hx1', hx3', hx2', hx4', (by rw [List.length_append, List.length_map, List.length_range, List.length_take]; exact nm_step hnm), (by rw [List.length_append, List.length_map, List.length_range]; exact ab_step hab hall),
                snm.app (rd_small ths _ fun i => i), sab.app (rd_small ths _ fun i => i + 1), c1, (by assumption), (by assumption), hbare3⟩)
end Mine

set_option maxRecDepth 100000 in
set_option maxHeartbeats 8000000 in
theorem PySem.Challenge.cw_ij0156_01_holds : PySem.Challenge.rw_ij0156_01.Holds :=
  Mine.main_
