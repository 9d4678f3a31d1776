import Derived.Test.Qxb6612537aG4
import Derived.Test.Qxb6612537aGRs
import Derived.Deep.RegionLaw
import Derived.LoopTactic
namespace Go.Proofs.Qxb6612537a.U
open Go.RowKit Go.Proofs.Qxb6612537a.Plain
set_option linter.unusedVariables false
set_option linter.unusedSimpArgs false

set_option maxRecDepth 100000 in
set_option maxHeartbeats 2000000 in
theorem g17 {w0 w : World} {base WB XB MB it n : Nat} {D : DataW Unit} {H0 V Bk : Value} {cnt : Nat} (ds : List Deferred) (K : Act → World → Prop) (Q : Exit → Act → World → Prop) (c0 c1 c2 c4 c5 c6 c7 c8 c9 c10 c11 c12 c13 c14 c15 c16 c17 c18 c19 c20 c21 c22 c23 c24 c25 c26 c27 c28 c29 c30 c31 c32 c33 c34 c35 c36 c37 c38 c39 c40 c41 c42 c43 c44 c45 c46 c47 c48 c49 c50 c51 c52 c53 c54 c55 c56 c57 c58 c59 c60 c61 c62 c63 c64 c65 c66 c67 c68 c69 c70 c71 c72 c74 c75 c76 c77 c78 c79 c80 c81 c82 c83 c84 c85 c86 c87 c88 c89 c90 c91 c92 c93 c94 c95 : Value)
    (h0 : RSt w0 base WB XB MB it n D H0 V Bk [] H0 (Go.Maps.has D) cnt w) (hn : n ≤ 4096)
    (hK : ∀ (u9 u10 u74 u75 u76 u77 u78 u79 u80 u81 u82 u83 u84 u85 u86 u87 u88 u89 u90 : Value) (w' : World) (Hs : AL) (H : Value) (left : Lit → Bool), RSt w0 base WB XB MB it n D H0 V Bk Hs H left 0 w' → (∀ kl, left kl = false) → K ⟨(c0 :: c1 :: c2 :: .pointer (some ⟨XB, 0, none⟩) :: c4 :: c5 :: c6 :: c7 :: c8 :: u9 :: u10 :: c11 :: c12 :: c13 :: c14 :: c15 :: c16 :: c17 :: c18 :: c19 :: c20 :: c21 :: c22 :: c23 :: c24 :: c25 :: c26 :: c27 :: c28 :: c29 :: c30 :: c31 :: c32 :: c33 :: c34 :: c35 :: c36 :: c37 :: c38 :: c39 :: c40 :: c41 :: c42 :: c43 :: c44 :: c45 :: c46 :: c47 :: c48 :: c49 :: c50 :: c51 :: c52 :: c53 :: c54 :: c55 :: c56 :: c57 :: c58 :: c59 :: c60 :: c61 :: c62 :: c63 :: c64 :: c65 :: c66 :: c67 :: c68 :: c69 :: c70 :: c71 :: c72 :: .pointer (some ⟨it, 0, none⟩) :: u74 :: u75 :: u76 :: u77 :: u78 :: u79 :: u80 :: u81 :: u82 :: u83 :: u84 :: u85 :: u86 :: u87 :: u88 :: u89 :: u90 :: c91 :: c92 :: c93 :: c94 :: c95 :: [] : List Value).toArray, ds⟩ w') :
    Code.wp Try.prog ((Try.f24.body.bind (blockAt 2)).getD .skip) (Exit.then K (NoPanic Q)) ⟨(c0 :: c1 :: c2 :: .pointer (some ⟨XB, 0, none⟩) :: c4 :: c5 :: c6 :: c7 :: c8 :: c9 :: c10 :: c11 :: c12 :: c13 :: c14 :: c15 :: c16 :: c17 :: c18 :: c19 :: c20 :: c21 :: c22 :: c23 :: c24 :: c25 :: c26 :: c27 :: c28 :: c29 :: c30 :: c31 :: c32 :: c33 :: c34 :: c35 :: c36 :: c37 :: c38 :: c39 :: c40 :: c41 :: c42 :: c43 :: c44 :: c45 :: c46 :: c47 :: c48 :: c49 :: c50 :: c51 :: c52 :: c53 :: c54 :: c55 :: c56 :: c57 :: c58 :: c59 :: c60 :: c61 :: c62 :: c63 :: c64 :: c65 :: c66 :: c67 :: c68 :: c69 :: c70 :: c71 :: c72 :: .pointer (some ⟨it, 0, none⟩) :: c74 :: c75 :: c76 :: c77 :: c78 :: c79 :: c80 :: c81 :: c82 :: c83 :: c84 :: c85 :: c86 :: c87 :: c88 :: c89 :: c90 :: c91 :: c92 :: c93 :: c94 :: c95 :: [] : List Value).toArray, ds⟩ w := by
  have HK : Hid _ := hK
  have HI := hid h0
  clear hK h0
  obtain ⟨i0, hi0, hz0, hz1, hz2⟩ := info_parts info85
  conv => arg 2; whnf
  go_cut [9, 10] from 74 to 90 (fun s9 s10 wx => ∃ Hs H left, RSt w0 base WB XB MB it n D H0 V Bk Hs H left 0 wx ∧ ∀ kl, left kl = false)
  case first =>
    go_wp2_with fail
    go_loopw [9, 10] (fun s9 s10 wr => ∃ Hs H left cnt, RSt w0 base WB XB MB it n D H0 V Bk Hs H left cnt wr) (fun s9 s10 wr => wr.rangeLeft MB it)
    case atStart => exact ⟨_, _, _, _, HI.out⟩
    case round =>
      obtain ⟨Hs, H, left, cnt, HS⟩ := hrel
      replace HS := hid HS
      have hrg := HS.out.rg
      go_wp2_with (first
        | (at_next; refine wpList_next_ranges_ii _ rfl _ rfl 2 3 .i64 .i64 keyed2 Try.underlying2 Try.underlying3 MB it n _ _ _ rfl hrg ?_ ?_)
        | go_in)
      · intro hc0 hl0
        subst hc0
        clear hrg
        go_wp2
        go_meet
        case rel => exact ⟨Hs, H, left, HS.out, hl0⟩
      · intro x c w1 cnt1 hwx hwc hlx hat hrg1 hlt hg1 hs1 hen
        obtain ⟨r1, r2, own, _⟩ := HS.out.next (left' := left) (cnt' := cnt) hg1
        have cf : w1.cell? ⟨XB, 0, none⟩ = some (.pointer (some ⟨WB, 0, none⟩)) := r2.cell (i := 0) (by omega)
        have c1 : w1.cell? ⟨WB, 1, none⟩ = some H := r1.cell (i := 1) (by omega)
        have fz := r1.frozen
        have hWB := r1.lt
        have hXB := r2.lt
        have hbb : base ≤ w1.heap.size := by rw [hs1]; exact HS.out.hb
        have hVW : H.ownBlock ≠ some WB := own_ne own r1 (by decide)
        have hVX : H.ownBlock ≠ some XB := own_ne own r2 (by decide)
        have dz : ∀ o, (w1.alloc o).drew.cell? ⟨WB, 1, none⟩ = some H := fun o => (World.cell?_alloc_lt _ _ _ hWB).trans c1
        have gz : ∀ o, (w1.alloc o).drew.frozen? ⟨WB, 1, none⟩ = false := fun o => (r1.alloc o).frozen 1
        have ez : ∀ o, (w1.alloc o).drew.cell? ⟨XB, 0, none⟩ = some (.pointer (some ⟨WB, 0, none⟩)) := fun o => (World.cell?_alloc_lt _ _ _ hXB).trans cf
        have hln : Hs.length ≤ 4096 := by have := HS.out.len; omega
        have HPush : Hid (∀ W w2 gg cap, Keeps (fun _ => False) w1 W → W.heap.size = w1.heap.size + 1 → w2.ownsRow base 85 2 (.slice (some ⟨gg, 0, none⟩) (Hs.length + 1) cap) (Hs.length + 1) (hflat Hs ++ [.int .i64 x, .int .i64 c]) → W.grownBy w2 H.ownBlock → (H.ownBlock = some gg ∨ gg = w1.heap.size + 1) →
            RSt w0 base WB XB MB it n D H0 V Bk (Hs ++ [(x, c)]) (.slice (some ⟨gg, 0, none⟩) (Hs.length + 1) cap) (fun z => left z && !z.sameKey (.int .i64 x)) cnt1 (w2.setCell ⟨WB, 1, none⟩ (.slice (some ⟨gg, 0, none⟩) (Hs.length + 1) cap))) :=
          fun W w2 gg cap k h1 h2 h3 h4 => HS.out.push hg1 hwx hlx hat hrg1 hlt k (h1.trans (by rw [hs1])) h2 h3 (by rw [← hs1]; exact h4)
        have HL1 : Hid (wr.rangeLeft MB it = cnt) := hrg.left_eq
        replace hlt := hid hlt
        clear r1 r2 hrg hrg1 hg1 hs1 hlx hat hwx hwc HS
        go_wp2_with fail
        go_region_law ((refine step_append_lies _ (by rfl) _ _ _ (by rfl) base 85 i0 _ 2 16 Try.underlying56 hi0 hz0 hz1 hz2 rfl (by omega) H Hs.length (hflat Hs) (by rfl) ((own.alloc _).drew) ⟨w1.heap.size, 0, none⟩ 1 1 [.int .i64 x, .int .i64 c] (by rfl) (by rfl) (World.news_of_block (cs := #[.int .i64 x, .int .i64 c]) (t := 85) (fr := (0, 0)) (heap_alloc_new w1 _)) (by simp [Value.oneCell']) (by omega) (by simp [maxLen]; omega) (by omega) (by simp; omega) (w1.heap.size + 1) (by simp) ?_; intro gg cap w2 hown1 hgrow hat2 hlt1; have hc1 := (hgrow.cell_far ⟨WB, 1, none⟩ (by simp; omega) (Ne.symm hVW)).trans (dz _); have hf1 := (hgrow.frozen_far ⟨WB, 1, none⟩ (by simp; omega) (Ne.symm hVW)).trans (gz _); have hd1 := (hgrow.cell_far ⟨XB, 0, none⟩ (by simp; omega) (Ne.symm hVX)).trans (ez _)))
        all_goals
          have LN := HPush.out _ _ gg cap (((Keeps.refl _ w1).alloc _).drew) (by simp) hown1 hgrow hat2
          replace LN := hid LN
          clear hown1 hgrow hat2 hc1 hf1 hd1 dz gz ez
          go_wp2
          go_roundw
          case rel => exact ⟨_, _, _, _, LN.out⟩
          case measure => rw [LN.out.rg.left_eq, HL1.out]; exact hlt.out
  case rest =>
    obtain ⟨Hs, H, left, h1, h2⟩ := hcut
    exact HK.out _ _ _ _ _ _ _ _ _ _ _ _ _ _ _ _ _ _ _ _ Hs H left h1 h2
end Go.Proofs.Qxb6612537a.U
