import Derived.Test.Qxb6612537aG7
namespace Go.Proofs.Qxb6612537a.U
open Go.RowKit Go.Proofs.Qxb6612537a.Plain
set_option linter.unusedVariables false
set_option linter.unusedSimpArgs false

set_option maxRecDepth 100000 in
set_option maxHeartbeats 2000000 in
theorem g4 {w : World} {WB XB : Nat} {a : Option Addr} {nn cc : Nat} (ds : List Deferred) (K : Act → World → Prop) (Q : Exit → Act → World → Prop) (c0 c1 c2 c4 c5 c6 c7 c8 c9 c10 c11 c12 c13 c14 c15 c16 c17 c18 c19 c20 c21 c22 c23 c24 c25 c26 c27 c28 c29 c30 c31 c32 c33 c34 c35 c36 c37 c38 c39 c40 c41 c42 c43 c44 c45 c46 c47 c48 c49 c50 c51 c52 c53 c54 c55 c56 c57 c58 c59 c60 c61 c62 c63 c64 c65 c66 c67 c68 c69 c70 c71 c72 c73 c74 c75 c76 c77 c78 c79 c80 c81 c82 c83 c84 c85 c86 c87 c88 c89 c90 c91 c92 c93 c94 c95 : Value)
    (hx : w.cell? ⟨XB, 0, none⟩ = some (.pointer (some ⟨WB, 0, none⟩))) (hv : w.cell? ⟨WB, 2, none⟩ = some (.slice a nn cc)) (hz : w.frozen? ⟨WB, 2, none⟩ = false)
    (hs : ∀ W, Sem.run Try.prog (Instr.slice 57 (.slice a nn cc) none (some (.int .i64 0)) none) W = .ok (.slice a 0 cc) W)
    (hK : ∀ (u24 u25 u26 u27 u28 u29 u30 u31 : Value), K ⟨(c0 :: c1 :: c2 :: .pointer (some ⟨XB, 0, none⟩) :: c4 :: c5 :: c6 :: c7 :: c8 :: c9 :: c10 :: c11 :: c12 :: c13 :: c14 :: c15 :: c16 :: c17 :: c18 :: c19 :: c20 :: c21 :: c22 :: c23 :: u24 :: u25 :: u26 :: u27 :: u28 :: u29 :: u30 :: u31 :: c32 :: c33 :: c34 :: c35 :: c36 :: c37 :: c38 :: c39 :: c40 :: c41 :: c42 :: c43 :: c44 :: c45 :: c46 :: c47 :: c48 :: c49 :: c50 :: c51 :: c52 :: c53 :: c54 :: c55 :: c56 :: c57 :: c58 :: c59 :: c60 :: c61 :: c62 :: c63 :: c64 :: c65 :: c66 :: c67 :: c68 :: c69 :: c70 :: c71 :: c72 :: c73 :: c74 :: c75 :: c76 :: c77 :: c78 :: c79 :: c80 :: c81 :: c82 :: c83 :: c84 :: c85 :: c86 :: c87 :: c88 :: c89 :: c90 :: c91 :: c92 :: c93 :: c94 :: c95 :: [] : List Value).toArray, ds⟩ (w.drew.setCell ⟨WB, 2, none⟩ (.slice a 0 cc))) :
    Code.wp Try.prog ((Try.f24.body.bind (regionAt 4)).getD .skip) (Exit.then K (NoPanic Q)) ⟨(c0 :: c1 :: c2 :: .pointer (some ⟨XB, 0, none⟩) :: c4 :: c5 :: c6 :: c7 :: c8 :: c9 :: c10 :: c11 :: c12 :: c13 :: c14 :: c15 :: c16 :: c17 :: c18 :: c19 :: c20 :: c21 :: c22 :: c23 :: c24 :: c25 :: c26 :: c27 :: c28 :: c29 :: c30 :: c31 :: c32 :: c33 :: c34 :: c35 :: c36 :: c37 :: c38 :: c39 :: c40 :: c41 :: c42 :: c43 :: c44 :: c45 :: c46 :: c47 :: c48 :: c49 :: c50 :: c51 :: c52 :: c53 :: c54 :: c55 :: c56 :: c57 :: c58 :: c59 :: c60 :: c61 :: c62 :: c63 :: c64 :: c65 :: c66 :: c67 :: c68 :: c69 :: c70 :: c71 :: c72 :: c73 :: c74 :: c75 :: c76 :: c77 :: c78 :: c79 :: c80 :: c81 :: c82 :: c83 :: c84 :: c85 :: c86 :: c87 :: c88 :: c89 :: c90 :: c91 :: c92 :: c93 :: c94 :: c95 :: [] : List Value).toArray, ds⟩ w := by
  have HK : Hid _ := hK
  clear hK
  conv => arg 2; whnf
  go_region
  all_goals exact HK.out _ _ _ _ _ _ _ _ 
set_option maxRecDepth 100000 in
set_option maxHeartbeats 2000000 in
theorem g13 {w : World} {WB XB : Nat} {a : Option Addr} {nn cc : Nat} (ds : List Deferred) (K : Act → World → Prop) (Q : Exit → Act → World → Prop) (c0 c1 c2 c4 c5 c6 c7 c8 c9 c10 c11 c12 c13 c14 c15 c16 c17 c18 c19 c20 c21 c22 c23 c24 c25 c26 c27 c28 c29 c30 c31 c32 c33 c34 c35 c36 c37 c38 c39 c40 c41 c42 c43 c44 c45 c46 c47 c48 c49 c50 c51 c52 c53 c54 c55 c56 c57 c58 c59 c60 c61 c62 c63 c64 c65 c66 c67 c68 c69 c70 c71 c72 c73 c74 c75 c76 c77 c78 c79 c80 c81 c82 c83 c84 c85 c86 c87 c88 c89 c90 c91 c92 c93 c94 c95 : Value)
    (hx : w.cell? ⟨XB, 0, none⟩ = some (.pointer (some ⟨WB, 0, none⟩))) (hv : w.cell? ⟨WB, 1, none⟩ = some (.slice a nn cc)) (hz : w.frozen? ⟨WB, 1, none⟩ = false)
    (hs : ∀ W, Sem.run Try.prog (Instr.slice 56 (.slice a nn cc) none (some (.int .i64 0)) none) W = .ok (.slice a 0 cc) W)
    (hK : ∀ (u61 u62 u63 u64 u65 u66 u67 u68 : Value), K ⟨(c0 :: c1 :: c2 :: .pointer (some ⟨XB, 0, none⟩) :: c4 :: c5 :: c6 :: c7 :: c8 :: c9 :: c10 :: c11 :: c12 :: c13 :: c14 :: c15 :: c16 :: c17 :: c18 :: c19 :: c20 :: c21 :: c22 :: c23 :: c24 :: c25 :: c26 :: c27 :: c28 :: c29 :: c30 :: c31 :: c32 :: c33 :: c34 :: c35 :: c36 :: c37 :: c38 :: c39 :: c40 :: c41 :: c42 :: c43 :: c44 :: c45 :: c46 :: c47 :: c48 :: c49 :: c50 :: c51 :: c52 :: c53 :: c54 :: c55 :: c56 :: c57 :: c58 :: c59 :: c60 :: u61 :: u62 :: u63 :: u64 :: u65 :: u66 :: u67 :: u68 :: c69 :: c70 :: c71 :: c72 :: c73 :: c74 :: c75 :: c76 :: c77 :: c78 :: c79 :: c80 :: c81 :: c82 :: c83 :: c84 :: c85 :: c86 :: c87 :: c88 :: c89 :: c90 :: c91 :: c92 :: c93 :: c94 :: c95 :: [] : List Value).toArray, ds⟩ (w.drew.setCell ⟨WB, 1, none⟩ (.slice a 0 cc))) :
    Code.wp Try.prog ((Try.f24.body.bind (regionAt 13)).getD .skip) (Exit.then K (NoPanic Q)) ⟨(c0 :: c1 :: c2 :: .pointer (some ⟨XB, 0, none⟩) :: c4 :: c5 :: c6 :: c7 :: c8 :: c9 :: c10 :: c11 :: c12 :: c13 :: c14 :: c15 :: c16 :: c17 :: c18 :: c19 :: c20 :: c21 :: c22 :: c23 :: c24 :: c25 :: c26 :: c27 :: c28 :: c29 :: c30 :: c31 :: c32 :: c33 :: c34 :: c35 :: c36 :: c37 :: c38 :: c39 :: c40 :: c41 :: c42 :: c43 :: c44 :: c45 :: c46 :: c47 :: c48 :: c49 :: c50 :: c51 :: c52 :: c53 :: c54 :: c55 :: c56 :: c57 :: c58 :: c59 :: c60 :: c61 :: c62 :: c63 :: c64 :: c65 :: c66 :: c67 :: c68 :: c69 :: c70 :: c71 :: c72 :: c73 :: c74 :: c75 :: c76 :: c77 :: c78 :: c79 :: c80 :: c81 :: c82 :: c83 :: c84 :: c85 :: c86 :: c87 :: c88 :: c89 :: c90 :: c91 :: c92 :: c93 :: c94 :: c95 :: [] : List Value).toArray, ds⟩ w := by
  have HK : Hid _ := hK
  clear hK
  conv => arg 2; whnf
  go_region
  all_goals exact HK.out _ _ _ _ _ _ _ _ 
end Go.Proofs.Qxb6612537a.U
