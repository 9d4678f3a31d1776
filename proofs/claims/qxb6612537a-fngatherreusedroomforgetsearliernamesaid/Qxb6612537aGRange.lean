import Derived.Test.Qxb6612537aG11
import Derived.Test.Qxb6612537aGRan
namespace Go.Proofs.Qxb6612537a.U
open Go.RowKit Go.Proofs.Qxb6612537a.Plain
set_option linter.unusedVariables false
set_option linter.unusedSimpArgs false

attribute [local go_sem] Oper.semAt_some
theorem then_norm {Q : Exit → Act → World → Prop} : ∀ (e : Exit) (a : Act) (w : World), Exit.then (Q .normal) (NoPanic (fun _ _ _ => False)) e a w → Q e a w := fun e a w h => by
  cases e <;> first | exact h | exact (h : False).elim
set_option maxRecDepth 100000 in
set_option maxHeartbeats 2000000 in
theorem gRange {G : GC} {w : World} {name : ByteArray} {B : Nat} (K : Act → World → Prop) (Q : Exit → Act → World → Prop) (c0 c1 c2 c3 c5 c8 c9 c10 c11 c12 c13 c14 c15 c16 c17 c18 c19 c20 c21 c22 c23 c24 c25 c26 c27 c28 c29 c30 c31 c32 c33 c34 c35 c36 c37 c38 c39 c40 c41 c42 c43 c44 c45 c46 c48 c49 c50 c51 c52 c53 c54 c55 c56 c57 c58 c59 c60 c61 c62 c63 c64 c65 c66 c67 c68 c69 c70 c71 c72 c73 c74 c75 c76 c77 c78 c79 c80 c81 c82 c83 c84 c85 c86 c87 c88 c89 c90 c91 c92 c93 c94 c95 : Value)
    (hS : GS G (fun x => False ∨ ((By name ++ [46]) <+: x)) (fun x => False ∨ ((By name ++ [46]) <+: x)) w) (ok : GOk G) (hname : name.size ≤ 1048576) (hB : Row w B 9 1 (fun _ => .string name)) (hBb : G.base ≤ B)
    (hK : ∀ (w' : World) (D : Nat), GS G (fun x => Rel x (By name)) (fun x => Rel x (By name)) w' → w'.heap[D]? = some (.deferred (some [])) → G.base ≤ D → K ⟨(c0 :: c1 :: c2 :: c3 :: .pointer (some ⟨G.LB, 0, none⟩) :: c5 :: .pointer (some ⟨G.FB, 0, none⟩) :: .pointer (some ⟨G.GB, 0, none⟩) :: c8 :: c9 :: c10 :: c11 :: c12 :: c13 :: c14 :: c15 :: c16 :: c17 :: c18 :: c19 :: c20 :: c21 :: c22 :: c23 :: c24 :: c25 :: c26 :: c27 :: c28 :: c29 :: c30 :: c31 :: c32 :: c33 :: c34 :: c35 :: c36 :: c37 :: c38 :: c39 :: c40 :: c41 :: c42 :: c43 :: c44 :: c45 :: c46 :: .func (.func 53) #[] #[.pointer (some ⟨B, 0, none⟩)] :: c48 :: c49 :: c50 :: c51 :: c52 :: c53 :: c54 :: c55 :: c56 :: c57 :: c58 :: c59 :: c60 :: c61 :: c62 :: c63 :: c64 :: c65 :: c66 :: c67 :: c68 :: c69 :: c70 :: c71 :: c72 :: c73 :: c74 :: c75 :: c76 :: c77 :: c78 :: c79 :: c80 :: c81 :: c82 :: c83 :: c84 :: c85 :: c86 :: c87 :: c88 :: c89 :: c90 :: c91 :: c92 :: c93 :: c94 :: c95 :: [] : List Value).toArray, [{ target := .collected D, args := #[] }]⟩ w') :
    Code.wp Try.prog ((Try.f24.body.bind (blockAt 0)).getD .skip) (Exit.then K (NoPanic Q)) ⟨(c0 :: c1 :: c2 :: c3 :: .pointer (some ⟨G.LB, 0, none⟩) :: c5 :: .pointer (some ⟨G.FB, 0, none⟩) :: .pointer (some ⟨G.GB, 0, none⟩) :: c8 :: c9 :: c10 :: c11 :: c12 :: c13 :: c14 :: c15 :: c16 :: c17 :: c18 :: c19 :: c20 :: c21 :: c22 :: c23 :: c24 :: c25 :: c26 :: c27 :: c28 :: c29 :: c30 :: c31 :: c32 :: c33 :: c34 :: c35 :: c36 :: c37 :: c38 :: c39 :: c40 :: c41 :: c42 :: c43 :: c44 :: c45 :: c46 :: .func (.func 53) #[] #[.pointer (some ⟨B, 0, none⟩)] :: c48 :: c49 :: c50 :: c51 :: c52 :: c53 :: c54 :: c55 :: c56 :: c57 :: c58 :: c59 :: c60 :: c61 :: c62 :: c63 :: c64 :: c65 :: c66 :: c67 :: c68 :: c69 :: c70 :: c71 :: c72 :: c73 :: c74 :: c75 :: c76 :: c77 :: c78 :: c79 :: c80 :: c81 :: c82 :: c83 :: c84 :: c85 :: c86 :: c87 :: c88 :: c89 :: c90 :: c91 :: c92 :: c93 :: c94 :: c95 :: [] : List Value).toArray, []⟩ w := by
  have HK : Hid _ := hK
  have HOk := hid ok
  clear hK
  obtain ⟨nm, N, h0, hl, h1, h2, h3, h4⟩ := linSeq_any name.size name (Nat.le_refl _)
  have hbase : G.base ≤ w.heap.size := by obtain ⟨V, n, m, cnt, xs, e, _⟩ := hS; exact e.hb
  conv => arg 2; whnf
  refine wp_block ?_
  refine (wpIn_wide (n := 9)).1 ?_
  refine range_lineage (base := G.base) (B := B) (N := N) (nm := nm) (fun k W => GS G (Pk name nm k) (Pk name nm k) W) (by rfl) (by rfl) hl (fun k hk => Nat.le_trans (h1 k hk) hname) (fun k W W' b hj kp hb ho => hj.other kp hb ho) (fun W' kp hj => (hj.keeps0 kp).1) ?round hbase (by rw [Pk_zero]; exact hS) (by rw [h0]; exact hB) hBb ?fin
  case fin =>
    intro W hj hd
    rw [Pk_last h4] at hj
    exact HK.out W _ hj hd hbase
  case round =>
    intro k W hk hj
    have hdis := Pk_dis hk h1 h3
    have hnm : (nm k).size ≤ 1048576 := Nat.le_trans (h1 k hk) hname
    have Hdis := hid hdis
    have Hj := hid hj
    clear hj hdis h1 h2 h3 h4 hl h0 HK hB hS
    gi_wp2
    refine ⟨trivial, fun W1 hj1 => ?_⟩
    refine wpIn_block (wpIn_seq (wpIn_mono (g11 (name := nm k) (w.heap.size + 1) _ _ _ _ _ _ _ _ _ _ _ _ _ _ _ _ _ _ _ _ _ _ _ _ _ _ _ _ _ _ _ _ _ _ _ _ _ _ _ _ _ _ _ _ _ _ _ _ _ _ _ _ _ _ _ _ _ _ _ _ _ _ _ _ _ _ _ _ _ _ _ _ _ _ _ _ _ _ _ _ _ _ _ _ _ _ _ _ _ _ _ _ _ _ _ _ hj1 HOk.out hnm Hdis.out ?_) then_imp))
    intro v49 v50 v51 v52 v53 v54 W2 g2 f2
    refine wpIn_mono (g12 (name := nm k) (w.heap.size + 1) _ _ (fun _ _ _ => False) _ _ _ _ _ _ _ _ _ _ _ _ _ _ _ _ _ _ _ _ _ _ _ _ _ _ _ _ _ _ _ _ _ _ _ _ _ _ _ _ _ _ _ _ _ _ _ _ _ _ _ _ _ _ _ _ _ _ _ _ _ _ _ _ _ _ _ _ _ _ _ _ _ _ _ _ _ _ _ _ _ _ _ _ _ _ _ _ _ _ _ _ _ g2 HOk.out hnm Hdis.out ?_) then_norm
    intro v55 v56 v57 v58 v59 v60 W3 g3 f3
    rw [Pk_succ] at g3
    exact ⟨rfl, g3, f2.trans f3⟩
end Go.Proofs.Qxb6612537a.U
