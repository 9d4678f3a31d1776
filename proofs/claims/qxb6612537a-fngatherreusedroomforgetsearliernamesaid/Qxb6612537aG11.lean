import Derived.Test.Qxb6612537aG7
import Derived.Shelf.RegionOpen
import Derived.TacticsIn
import Derived.RegionIn
import Derived.RangeFuncCalls
namespace Go.Proofs.Qxb6612537a.U
open Go.RowKit Go.Proofs.Qxb6612537a.Plain
set_option linter.unusedVariables false
set_option linter.unusedSimpArgs false

attribute [local go_sem] Oper.semAt_some
set_option maxRecDepth 100000 in
set_option maxHeartbeats 2000000 in
theorem g11 {G : GC} {w : World} {name : ByteArray} {P Q2 : Nm → Prop} (l n : Nat) (K : Act → World → Prop) (Q : Exit → Act → World → Prop) (c0 c1 c2 c3 c5 c7 c9 c10 c11 c12 c13 c14 c15 c16 c17 c18 c19 c20 c21 c22 c23 c24 c25 c26 c27 c28 c29 c30 c31 c32 c33 c34 c35 c36 c37 c38 c39 c40 c41 c42 c43 c44 c45 c46 c47 c48 c49 c50 c51 c52 c53 c54 c55 c56 c57 c58 c59 c60 c61 c62 c63 c64 c65 c66 c67 c68 c69 c70 c71 c72 c73 c74 c75 c76 c77 c78 c79 c80 c81 c82 c83 c84 c85 c86 c87 c88 c89 c90 c91 c92 c93 c94 c95 : Value)
    (hS : GS G (P) Q2 w) (ok : GOk G) (hname : name.size ≤ 1048576) (hdis : ∀ x, P x → ¬ (x = By name))
    (hK : ∀ (u49 u50 u51 u52 u53 u54 : Value) (w' : World), GS G (fun x => P x ∨ (x = By name)) Q2 w' → FK G.base w w' → K ⟨(c0 :: c1 :: c2 :: c3 :: .pointer (some ⟨G.LB, 0, none⟩) :: c5 :: .pointer (some ⟨G.FB, 0, none⟩) :: c7 :: .string name :: c9 :: c10 :: c11 :: c12 :: c13 :: c14 :: c15 :: c16 :: c17 :: c18 :: c19 :: c20 :: c21 :: c22 :: c23 :: c24 :: c25 :: c26 :: c27 :: c28 :: c29 :: c30 :: c31 :: c32 :: c33 :: c34 :: c35 :: c36 :: c37 :: c38 :: c39 :: c40 :: c41 :: c42 :: c43 :: c44 :: c45 :: c46 :: c47 :: c48 :: u49 :: u50 :: u51 :: u52 :: u53 :: u54 :: c55 :: c56 :: c57 :: c58 :: c59 :: c60 :: c61 :: c62 :: c63 :: c64 :: c65 :: c66 :: c67 :: c68 :: c69 :: c70 :: c71 :: c72 :: c73 :: c74 :: c75 :: c76 :: c77 :: c78 :: c79 :: c80 :: c81 :: c82 :: c83 :: c84 :: c85 :: c86 :: c87 :: c88 :: c89 :: c90 :: c91 :: c92 :: c93 :: c94 :: c95 :: [] : List Value).toArray, []⟩ w') :
    Code.wpIn (Fence.wide.inRound l) n Try.prog ((Try.f24.body.bind (regionAt 11)).getD .skip) (Exit.then K (NoPanic Q)) ⟨(c0 :: c1 :: c2 :: c3 :: .pointer (some ⟨G.LB, 0, none⟩) :: c5 :: .pointer (some ⟨G.FB, 0, none⟩) :: c7 :: .string name :: c9 :: c10 :: c11 :: c12 :: c13 :: c14 :: c15 :: c16 :: c17 :: c18 :: c19 :: c20 :: c21 :: c22 :: c23 :: c24 :: c25 :: c26 :: c27 :: c28 :: c29 :: c30 :: c31 :: c32 :: c33 :: c34 :: c35 :: c36 :: c37 :: c38 :: c39 :: c40 :: c41 :: c42 :: c43 :: c44 :: c45 :: c46 :: c47 :: c48 :: c49 :: c50 :: c51 :: c52 :: c53 :: c54 :: c55 :: c56 :: c57 :: c58 :: c59 :: c60 :: c61 :: c62 :: c63 :: c64 :: c65 :: c66 :: c67 :: c68 :: c69 :: c70 :: c71 :: c72 :: c73 :: c74 :: c75 :: c76 :: c77 :: c78 :: c79 :: c80 :: c81 :: c82 :: c83 :: c84 :: c85 :: c86 :: c87 :: c88 :: c89 :: c90 :: c91 :: c92 :: c93 :: c94 :: c95 :: [] : List Value).toArray, []⟩ w := by
  have HK : Hid _ := hK
  have HS := hid hS
  have HOk := hid ok
  have kc : ∀ w', FK G.base w w' → w'.cell? ⟨G.FB, 0, none⟩ = some (.func (.func 33) #[] #[.pointer (some ⟨G.XB, 0, none⟩)]) ∧ w'.cell? ⟨G.LB, 0, none⟩ = some (.slice G.ah G.nh G.ch) := fun w' hk => by
    obtain ⟨V, n, m, cnt, xs, h1, _⟩ := HS.out
    exact ⟨(h1.fk hk).fb.cell (i := 0) (by omega), (h1.fk hk).lb.cell (i := 0) (by omega)⟩
  have hbase : G.base ≤ w.heap.size := by obtain ⟨V, n, m, cnt, xs, h1, _⟩ := HS.out; exact h1.hb
  have CON : ∀ q, Calls Try.prog 36 #[.slice G.ah G.nh G.ch, .string name, .bool false] (w.drewN q) (fun e w2 => ∃ A N C, e = .returned (.slice A N C) ∧ FK G.base w w2 ∧ ∀ k, Calls Try.prog 33 #[.slice A N C, .pointer (some ⟨G.XB, 0, none⟩)] (w2.drewN k) (fun e w' => e = .returned (.tuple #[]) ∧ GS G (fun x => P x ∨ (x = By name)) Q2 w' ∧ FK G.base w w')) := fun q => by
    obtain ⟨g1, f1⟩ := HS.out.keeps0 ((Keeps.refl _ w).drewN q)
    have hsl := g1
    obtain ⟨V, n, m, cnt, xs, h1, _⟩ := hsl
    have hs2 := own_sl2 (size := 3) (f := fun i => hc (G.R i)) (fun _ => rfl) h1.oh
    refine (on36f_any G.ah G.nh G.ch G.R name _ hs2.1 HOk.out.nh hs2.2 HOk.out.ash HOk.out.hs hname).mono ?_
    intro e w2 hp
    obtain ⟨A, N, C, he, g2, f2, C2⟩ := GS.on33 (Q := fun x => (x = By name)) g1 HOk.out hdis hp
    refine ⟨A, N, C, he, f1.trans f2, fun k => (C2 k).mono ?_⟩
    rintro e w' ⟨he', g3, f3⟩
    exact ⟨he', g3, (f1.trans f2).trans f3⟩
  clear hK hS ok hdis
  conv => arg 4; whnf
  obtain ⟨k1, k2⟩ := kc w (FK.refl _ _)
  have HKC := hid kc
  clear kc
  have hmx : Try.prog.follows .mixedOrders = true := by kernel_rfl
  gi_region_with_o (first | (refine ⟨trivial, fun hd => absurd hd (by simp [Fence.wide]), ?_⟩; gi_at_call 36; refine (CallsIn.inRound l (callsIn_wide.2 (CON 1))).mono ?_; rintro e w2 ⟨A, N, C, rfl, f2, C2⟩; obtain ⟨k3, k4⟩ := HKC.out _ f2) | (refine ⟨trivial, fun hd => absurd hd (by simp [Fence.wide]), ?_⟩; gi_at_call 33; refine (CallsIn.inRound l (callsIn_wide.2 (C2 0))).mono ?_; rintro e w3 ⟨rfl, g3, f3⟩))
  all_goals exact HK.out _ _ _ _ _ _ _ g3 f3
set_option maxRecDepth 100000 in
set_option maxHeartbeats 2000000 in
theorem g12 {G : GC} {w : World} {name : ByteArray} {P Q2 : Nm → Prop} (l n : Nat) (K : Act → World → Prop) (Q : Exit → Act → World → Prop) (c0 c1 c2 c3 c5 c6 c9 c10 c11 c12 c13 c14 c15 c16 c17 c18 c19 c20 c21 c22 c23 c24 c25 c26 c27 c28 c29 c30 c31 c32 c33 c34 c35 c36 c37 c38 c39 c40 c41 c42 c43 c44 c45 c46 c47 c48 c49 c50 c51 c52 c53 c54 c55 c56 c57 c58 c59 c60 c61 c62 c63 c64 c65 c66 c67 c68 c69 c70 c71 c72 c73 c74 c75 c76 c77 c78 c79 c80 c81 c82 c83 c84 c85 c86 c87 c88 c89 c90 c91 c92 c93 c94 c95 : Value)
    (hS : GS G Q2 (P) w) (ok : GOk G) (hname : name.size ≤ 1048576) (hdis : ∀ x, P x → ¬ (x = By name))
    (hK : ∀ (u55 u56 u57 u58 u59 u60 : Value) (w' : World), GS G Q2 (fun x => P x ∨ (x = By name)) w' → FK G.base w w' → K ⟨(c0 :: c1 :: c2 :: c3 :: .pointer (some ⟨G.LB, 0, none⟩) :: c5 :: c6 :: .pointer (some ⟨G.GB, 0, none⟩) :: .string name :: c9 :: c10 :: c11 :: c12 :: c13 :: c14 :: c15 :: c16 :: c17 :: c18 :: c19 :: c20 :: c21 :: c22 :: c23 :: c24 :: c25 :: c26 :: c27 :: c28 :: c29 :: c30 :: c31 :: c32 :: c33 :: c34 :: c35 :: c36 :: c37 :: c38 :: c39 :: c40 :: c41 :: c42 :: c43 :: c44 :: c45 :: c46 :: c47 :: c48 :: c49 :: c50 :: c51 :: c52 :: c53 :: c54 :: u55 :: u56 :: u57 :: u58 :: u59 :: u60 :: c61 :: c62 :: c63 :: c64 :: c65 :: c66 :: c67 :: c68 :: c69 :: c70 :: c71 :: c72 :: c73 :: c74 :: c75 :: c76 :: c77 :: c78 :: c79 :: c80 :: c81 :: c82 :: c83 :: c84 :: c85 :: c86 :: c87 :: c88 :: c89 :: c90 :: c91 :: c92 :: c93 :: c94 :: c95 :: [] : List Value).toArray, []⟩ w') :
    Code.wpIn (Fence.wide.inRound l) n Try.prog ((Try.f24.body.bind (regionAt 12)).getD .skip) (Exit.then K (NoPanic Q)) ⟨(c0 :: c1 :: c2 :: c3 :: .pointer (some ⟨G.LB, 0, none⟩) :: c5 :: c6 :: .pointer (some ⟨G.GB, 0, none⟩) :: .string name :: c9 :: c10 :: c11 :: c12 :: c13 :: c14 :: c15 :: c16 :: c17 :: c18 :: c19 :: c20 :: c21 :: c22 :: c23 :: c24 :: c25 :: c26 :: c27 :: c28 :: c29 :: c30 :: c31 :: c32 :: c33 :: c34 :: c35 :: c36 :: c37 :: c38 :: c39 :: c40 :: c41 :: c42 :: c43 :: c44 :: c45 :: c46 :: c47 :: c48 :: c49 :: c50 :: c51 :: c52 :: c53 :: c54 :: c55 :: c56 :: c57 :: c58 :: c59 :: c60 :: c61 :: c62 :: c63 :: c64 :: c65 :: c66 :: c67 :: c68 :: c69 :: c70 :: c71 :: c72 :: c73 :: c74 :: c75 :: c76 :: c77 :: c78 :: c79 :: c80 :: c81 :: c82 :: c83 :: c84 :: c85 :: c86 :: c87 :: c88 :: c89 :: c90 :: c91 :: c92 :: c93 :: c94 :: c95 :: [] : List Value).toArray, []⟩ w := by
  have HK : Hid _ := hK
  have HS := hid hS
  have HOk := hid ok
  have kc : ∀ w', FK G.base w w' → w'.cell? ⟨G.GB, 0, none⟩ = some (.func (.func 35) #[] #[.pointer (some ⟨G.XB, 0, none⟩)]) ∧ w'.cell? ⟨G.LB, 1, none⟩ = some (.slice G.aw G.nw G.cw) := fun w' hk => by
    obtain ⟨V, n, m, cnt, xs, h1, _⟩ := HS.out
    exact ⟨(h1.fk hk).gb.cell (i := 0) (by omega), (h1.fk hk).lb.cell (i := 1) (by omega)⟩
  have hbase : G.base ≤ w.heap.size := by obtain ⟨V, n, m, cnt, xs, h1, _⟩ := HS.out; exact h1.hb
  have CON : ∀ q, Calls Try.prog 37 #[.slice G.aw G.nw G.cw, .string name, .bool false] (w.drewN q) (fun e w2 => ∃ A N C, e = .returned (.slice A N C) ∧ FK G.base w w2 ∧ ∀ k, Calls Try.prog 35 #[.slice A N C, .pointer (some ⟨G.XB, 0, none⟩)] (w2.drewN k) (fun e w' => e = .returned (.tuple #[]) ∧ GS G Q2 (fun x => P x ∨ (x = By name)) w' ∧ FK G.base w w')) := fun q => by
    obtain ⟨g1, f1⟩ := HS.out.keeps0 ((Keeps.refl _ w).drewN q)
    have hsl := g1
    obtain ⟨V, n, m, cnt, xs, h1, _⟩ := hsl
    have hs2 := own_sl2 (size := 5) (f := fun i => wc (G.W i)) (fun _ => rfl) h1.ow
    refine (on37f_any G.aw G.nw G.cw G.W name _ hs2.1 HOk.out.nw hs2.2 HOk.out.asw HOk.out.ws hname).mono ?_
    intro e w2 hp
    obtain ⟨A, N, C, he, g2, f2, C2⟩ := GS.on35 (Q := fun x => (x = By name)) g1 HOk.out hdis hp
    refine ⟨A, N, C, he, f1.trans f2, fun k => (C2 k).mono ?_⟩
    rintro e w' ⟨he', g3, f3⟩
    exact ⟨he', g3, (f1.trans f2).trans f3⟩
  clear hK hS ok hdis
  conv => arg 4; whnf
  obtain ⟨k1, k2⟩ := kc w (FK.refl _ _)
  have HKC := hid kc
  clear kc
  have hmx : Try.prog.follows .mixedOrders = true := by kernel_rfl
  gi_region_with_o (first | (refine ⟨trivial, fun hd => absurd hd (by simp [Fence.wide]), ?_⟩; gi_at_call 37; refine (CallsIn.inRound l (callsIn_wide.2 (CON 1))).mono ?_; rintro e w2 ⟨A, N, C, rfl, f2, C2⟩; obtain ⟨k3, k4⟩ := HKC.out _ f2) | (refine ⟨trivial, fun hd => absurd hd (by simp [Fence.wide]), ?_⟩; gi_at_call 35; refine (CallsIn.inRound l (callsIn_wide.2 (C2 0))).mono ?_; rintro e w3 ⟨rfl, g3, f3⟩))
  all_goals exact HK.out _ _ _ _ _ _ _ g3 f3
end Go.Proofs.Qxb6612537a.U
