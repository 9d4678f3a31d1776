import Derived.Laws.EntriesVeiled
import Derived.Test.Qxb6612537aGRange
import Derived.Test.Qxb6612537aGR13
namespace Go.Proofs.Qxb6612537a.U
open Go.RowKit Go.Proofs.Qxb6612537a.Plain
set_option linter.unusedVariables false
set_option linter.unusedSimpArgs false

/-- gather's state ahead of its closures. -/
structure Pre (G : GC) (V : Value) (cnt : Nat) (xs : List Value) (w : World) : Prop where
  xb : Row w G.XB 32 1 (fun _ => .pointer (some ⟨G.WB, 0, none⟩))
  lb : Row w G.LB 30 2 (pair (.slice G.ah G.nh G.ch) (.slice G.aw G.nw G.cw))
  oh : w.ownsRow G.base0 70 3 (.slice G.ah G.nh G.ch) G.nh (flat G.nh fun i => hc (G.R i))
  ow : w.ownsRow G.base0 74 5 (.slice G.aw G.nw G.cw) G.nw (flat G.nw fun i => wc (G.W i))
  bl : Below G.base G.w0 w
  hb : G.base ≤ w.heap.size
  var : Var G V 0 (fun _ => none) cnt xs w
theorem one_cell {v : Value} : ∀ i, i < (#[v] : Array Value).size → (#[v] : Array Value)[i]? = some v := fun i hi => by
  have : i = 0 := by simp at hi; omega
  subst this; rfl
set_option maxRecDepth 100000 in
set_option maxHeartbeats 2000000 in
theorem gRest4 {G : GC} {w : World} {name : ByteArray} {V : Value} {cnt : Nat} {xs : List Value} (Q : Exit → Act → World → Prop) (c0 c1 c5 c6 c7 c8 c9 c10 c11 c12 c13 c14 c15 c16 c17 c18 c19 c20 c21 c22 c23 c24 c25 c26 c27 c28 c29 c30 c31 c32 c33 c34 c35 c36 c37 c38 c39 c40 c41 c42 c43 c44 c45 c46 c47 c48 c49 c50 c51 c52 c53 c54 c55 c56 c57 c58 c59 c60 c61 c62 c63 c64 c65 c66 c67 c68 c69 c70 c71 c72 c73 c74 c75 c76 c77 c78 c79 c80 c81 c82 c83 c84 c85 c86 c87 c88 c89 c90 c91 c92 c93 c94 c95 : Value)
    (hP : Pre G V cnt xs w) (eF : G.FB = w.heap.size) (eG : G.GB = w.heap.size + 1) (ok : GOk G) (hod : ∀ a b, a < G.nw → b < G.nw → (G.W a).od = (G.W b).od → a = b) (hname : name.size ≤ 1048576)
    (hK : ∀ (tmps : Array Value) (w' : World) (D : Nat), GDone G (fun x => Rel x (By name)) w' → w'.heap[D]? = some (.deferred (some [])) → G.base ≤ D → Q .normal ⟨tmps, [{ target := .collected D, args := #[] }]⟩ w') :
    Code.wp Try.prog ((Try.f24.body.bind (restAt 4)).getD .skip) Q ⟨(c0 :: c1 :: .string name :: .pointer (some ⟨G.XB, 0, none⟩) :: .pointer (some ⟨G.LB, 0, none⟩) :: c5 :: c6 :: c7 :: c8 :: c9 :: c10 :: c11 :: c12 :: c13 :: c14 :: c15 :: c16 :: c17 :: c18 :: c19 :: c20 :: c21 :: c22 :: c23 :: c24 :: c25 :: c26 :: c27 :: c28 :: c29 :: c30 :: c31 :: c32 :: c33 :: c34 :: c35 :: c36 :: c37 :: c38 :: c39 :: c40 :: c41 :: c42 :: c43 :: c44 :: c45 :: c46 :: c47 :: c48 :: c49 :: c50 :: c51 :: c52 :: c53 :: c54 :: c55 :: c56 :: c57 :: c58 :: c59 :: c60 :: c61 :: c62 :: c63 :: c64 :: c65 :: c66 :: c67 :: c68 :: c69 :: c70 :: c71 :: c72 :: c73 :: c74 :: c75 :: c76 :: c77 :: c78 :: c79 :: c80 :: c81 :: c82 :: c83 :: c84 :: c85 :: c86 :: c87 :: c88 :: c89 :: c90 :: c91 :: c92 :: c93 :: c94 :: c95 :: [] : List Value).toArray, []⟩ w := by
  have HK : Hid _ := hK
  have HOk := hid ok
  have Hod := hid hod
  have HP := hid hP
  obtain ⟨aV, cV, eV, _, hs57, oV0, eB⟩ := own_cut hP.var.own
  have hx : w.cell? ⟨G.XB, 0, none⟩ = some (.pointer (some ⟨G.WB, 0, none⟩)) := hP.xb.cell (i := 0) (by omega)
  have hv : w.cell? ⟨G.WB, 2, none⟩ = some (.slice aV cnt cV) := by rw [← eV]; exact hP.var.st.cell (i := 2) (by omega)
  have hz := hP.var.st.frozen 2
  conv => arg 2; whnf
  refine wp_seq (Code.wp_mono then_imp (g4 [] _ _ _ _ _ _ _ _ _ _ _ _ _ _ _ _ _ _ _ _ _ _ _ _ _ _ _ _ _ _ _ _ _ _ _ _ _ _ _ _ _ _ _ _ _ _ _ _ _ _ _ _ _ _ _ _ _ _ _ _ _ _ _ _ _ _ _ _ _ _ _ _ _ _ _ _ _ _ _ _ _ _ _ _ _ _ _ _ _ _ _ _ _ _ _ _ _ hx hv hz hs57 ?_))
  intro v24 v25 v26 v27 v28 v29 v30 v31
  obtain ⟨w1, hw1⟩ : ∃ w1, w1 = w.drew.setCell ⟨G.WB, 2, none⟩ (.slice aV 0 cV) := ⟨_, rfl⟩
  have hsz1 : w1.heap.size = w.heap.size := by rw [hw1]; simp [World.setCell]
  have eF1 : G.FB = w1.heap.size := eF.trans hsz1.symm
  have eG1 : G.GB = w1.heap.size + 1 := by rw [eG, hsz1]
  have k1 : Keeps (fun b => b = G.WB) w w1 := by rw [hw1]; exact ((Keeps.refl (fun b => b = G.WB) w).drew).setCell (a := ⟨G.WB, 2, none⟩) (.inl rfl) _
  have f1 : FK G.base w w1 := .of_keeps k1 hP.hb (by rintro b rfl; exact ⟨hP.var.hW, row_not_fix hP.var.st (by decide)⟩)
  have hp1 : Pre G (.slice aV 0 cV) 0 [] w1 := by
    have var := hP.var
    refine ⟨hP.xb.fk f1 (by decide), hP.lb.fk f1 (by decide), own_fk hP.oh f1 (by decide), own_fk hP.ow f1 (by decide), hP.bl.trans f1.bl, Nat.le_trans hP.hb f1.bl.size, ⟨?_, var.mp.keeps k1 (fun e => var.mp.row_ne var.st e.symm), own_keeps oV0 k1 (by rintro b hb rfl; rw [eB] at hb; exact own_ne var.own var.st (by decide) hb), own_keeps var.oH k1 (by rintro b hb rfl; exact own_ne var.oH var.st (by decide) hb), var.hW, var.hM⟩⟩
    rw [hw1]
    refine (var.st.drew.set 2 _).congr (fun q hq => ?_)
    by_cases e : q = 2
    · subst e; simp [four]
    · have : q = 0 ∨ q = 1 ∨ q = 3 := by omega
      rcases this with rfl | rfl | rfl <;> simp [four]
  rw [← hw1]
  have HP1 := hid hp1
  have HF := hid eF1
  have HG := hid eG1
  clear hK ok hod hP hx hv hz hs57 oV0 eB eV k1 f1 hp1 hw1 hsz1 eF1 eG1 eF eG HP
  have a1 : (w1.alloc (.cells #[.nilFunc] 76)).cell? ⟨w1.heap.size, 0, none⟩ = some .nilFunc := (Row.new w1 #[.nilFunc] 76 (fun _ => .nilFunc) one_cell).cell (i := 0) (by simp)
  have a2 : (w1.alloc (.cells #[.nilFunc] 76)).frozen? ⟨w1.heap.size, 0, none⟩ = false := (Row.new w1 #[.nilFunc] 76 (fun _ => .nilFunc) one_cell).frozen 0
  go_upto_region 6 with fail
  obtain ⟨w2, hw2⟩ : ∃ w2, w2 = w1.alloc (.cells #[.func (.func 33) #[] #[.pointer (some ⟨G.XB, 0, none⟩)]] 76) := ⟨_, rfl⟩
  have hsz2 : w2.heap.size = w1.heap.size + 1 := by rw [hw2]; simp
  have k2 : Keeps (fun _ => False) w1 w2 := by rw [hw2]; exact (Keeps.refl _ w1).alloc _
  have r2 : Row w2 w1.heap.size 76 1 (fun _ => .func (.func 33) #[] #[.pointer (some ⟨G.XB, 0, none⟩)]) := by
    rw [hw2]
    exact Row.new w1 #[_] 76 (fun _ => _) one_cell
  rw [← hw2]
  clear hw2 a1 a2
  rw [← HF.out] at r2 ⊢
  have HG2 : Hid (G.GB = w2.heap.size) := by show G.GB = _; rw [HG.out, hsz2]
  have HR2 := hid r2
  have HK2 := hid k2
  clear r2 k2 hsz2
  have a1 : (w2.alloc (.cells #[.nilFunc] 78)).cell? ⟨w2.heap.size, 0, none⟩ = some .nilFunc := (Row.new w2 #[.nilFunc] 78 (fun _ => .nilFunc) one_cell).cell (i := 0) (by simp)
  have a2 : (w2.alloc (.cells #[.nilFunc] 78)).frozen? ⟨w2.heap.size, 0, none⟩ = false := (Row.new w2 #[.nilFunc] 78 (fun _ => .nilFunc) one_cell).frozen 0
  go_upto_region 7 with fail
  obtain ⟨w3, hw3⟩ : ∃ w3, w3 = w2.alloc (.cells #[.func (.func 35) #[] #[.pointer (some ⟨G.XB, 0, none⟩)]] 78) := ⟨_, rfl⟩
  have k3 : Keeps (fun _ => False) w2 w3 := by rw [hw3]; exact (Keeps.refl _ w2).alloc _
  have r3 : Row w3 w2.heap.size 78 1 (fun _ => .func (.func 35) #[] #[.pointer (some ⟨G.XB, 0, none⟩)]) := by
    rw [hw3]
    exact Row.new w2 #[_] 78 (fun _ => _) one_cell
  rw [← hw3]
  clear hw3 a1 a2
  rw [← HG2.out] at r3 ⊢
  have kk : Keeps (fun _ => False) w1 w3 := HK2.out.trans k3
  have g3 : GS G (fun _ => False) (fun _ => False) w3 := by
    have p1 := HP1.out
    have fk := FK.of_keeps0 kk p1.hb
    exact ⟨_, _, _, _, _, ⟨p1.xb.fk fk (by decide), p1.lb.fk fk (by decide), HR2.out.keeps k3 (fun h => h), r3, own_fk p1.oh fk (by decide), own_fk p1.ow fk (by decide), p1.bl.trans fk.bl, Nat.le_trans p1.hb fk.bl.size⟩, p1.var.keeps0 kk, PH.zero _ _, PW.zero _ _ _⟩
  clear r3 k3 kk HK2 HR2 HG2 HP1 HF HG
  refine Code.wp_mono then_imp (g7 _ _ _ _ _ _ _ _ _ _ _ _ _ _ _ _ _ _ _ _ _ _ _ _ _ _ _ _ _ _ _ _ _ _ _ _ _ _ _ _ _ _ _ _ _ _ _ _ _ _ _ _ _ _ _ _ _ _ _ _ _ _ _ _ _ _ _ _ _ _ _ _ _ _ _ _ _ _ _ _ _ _ _ _ _ _ _ _ _ _ _ _ _ _ _ g3 HOk.out hname (fun x h => h.elim) ?_)
  intro t34 t35 t36 t37 t38 t39 w4 g4 _
  go_upto_region 8 with fail
  refine Code.wp_mono then_imp (g8 _ _ _ _ _ _ _ _ _ _ _ _ _ _ _ _ _ _ _ _ _ _ _ _ _ _ _ _ _ _ _ _ _ _ _ _ _ _ _ _ _ _ _ _ _ _ _ _ _ _ _ _ _ _ _ _ _ _ _ _ _ _ _ _ _ _ _ _ _ _ _ _ _ _ _ _ _ _ _ _ _ _ _ _ _ _ _ _ _ _ _ _ _ _ _ g4 HOk.out hname (fun x h => h.elim) ?_)
  intro t40 t41 t42 t43 t44 t45 w5 g5 _
  go_upto_block 0 with (go_at_call 38; refine (lineage38_any name _).mono ?_; rintro e w6 ⟨rfl, rfl⟩)
  have hbase : G.base ≤ w5.heap.size := by obtain ⟨V, n, m, cnt, xs, e, _⟩ := g5; exact e.hb
  have g6 := (g5.keeps0 ((Keeps.refl _ w5).alloc (.cells #[.string name] 9))).1
  refine Code.wp_mono then_imp (gRange _ _ _ _ _ _ _ _ _ _ _ _ _ _ _ _ _ _ _ _ _ _ _ _ _ _ _ _ _ _ _ _ _ _ _ _ _ _ _ _ _ _ _ _ _ _ _ _ _ _ _ _ _ _ _ _ _ _ _ _ _ _ _ _ _ _ _ _ _ _ _ _ _ _ _ _ _ _ _ _ _ _ _ _ _ _ _ _ _ _ _ _ _ _ g6 HOk.out hname ((Row.new w5 #[.string name] 9 (fun _ => .string name) one_cell).less (by simp)) hbase ?_)
  intro w7 D g7 hd7 hbD
  rename_i KK hKK
  refine hKK _ _ (gRest13 _ _ _ _ _ _ _ _ _ _ _ _ _ _ _ _ _ _ _ _ _ _ _ _ _ _ _ _ _ _ _ _ _ _ _ _ _ _ _ _ _ _ _ _ _ _ _ _ _ _ _ _ _ _ _ _ _ _ _ _ _ _ _ _ _ _ _ _ _ _ _ _ _ _ _ _ _ _ _ _ _ _ _ _ _ _ _ _ _ _ _ _ _ _ _ _ _ g7 HOk.out Hod.out ?_)
  intro s9 s10 s61 s62 s63 s64 s65 s66 s67 s68 s69 s70 s71 s72 s73 s74 s75 s76 s77 s78 s79 s80 s81 s82 s83 s84 s85 s86 s87 s88 s89 s90 s91 s92 s93 s94 s95 w8 gd f8
  exact HK.out _ w8 D gd (f8.fx _ _ hd7 trivial) hbD
end Go.Proofs.Qxb6612537a.U
