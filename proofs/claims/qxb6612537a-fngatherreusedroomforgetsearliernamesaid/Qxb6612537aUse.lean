import Derived.Test.Qxb6612537aGat
import Derived.Test.Qxb6612537aGm
import Derived.Test.Qxb6612537aZz
import Derived.Deep.Slices
/-! What gather leaves, as gatherMatches reads it; ZZgather. -/
namespace Go.Proofs.Qxb6612537a.U
open Go.RowKit Go.Proofs.Qxb6612537a.Plain
set_option linter.unusedVariables false
set_option linter.unusedSimpArgs false

theorem hflat_eq (Hs : AL) : hflat Hs = flat Hs.length (fun i => [.int .i64 (key Hs i), .int .i64 (val Hs i)]) := by
  unfold hflat flat
  rw [Go.Deep.flatMap_by_index Hs (0, 0) hcell]; rfl
structure Reads (w : World) (WB nh nw : Nat) (R : Nat → HRec) (W : Nat → WRec) (name : ByteArray) (Hs : AL) (L : List Nat) : Prop where
  hs : HsOk R nh (fun x => Rel x (By name)) Hs
  srt : Srt (fun k => (W k).od) L
  mem : ∀ x, x ∈ L ↔ x < nw ∧ Rel (By (W x).nm) (By name)
  c27 : ∀ wr, Below w.heap.size w wr → Calls Try.prog 27 #[.pointer (some ⟨WB, 0, none⟩)] wr (fun e w' => e = .returned (.int .i64 (Hs.length : Nat)) ∧ w' = wr)
  c28 : ∀ (i : Nat) (wr : World), i < Hs.length → Below w.heap.size w wr → Calls Try.prog 28 #[.pointer (some ⟨WB, 0, none⟩), .int .i64 (i : Nat)] wr (fun e w' => e = .returned (.tuple #[.int .i64 (key Hs i), .int .i64 (val Hs i)]) ∧ ∃ m, w' = wr.drewN m)
  c29 : ∀ wr, Below w.heap.size w wr → Calls Try.prog 29 #[.pointer (some ⟨WB, 0, none⟩)] wr (fun e w' => e = .returned (.int .i64 (L.length : Nat)) ∧ w' = wr)
  c30 : ∀ (i : Nat) (wr : World), i < L.length → Below w.heap.size w wr → Calls Try.prog 30 #[.pointer (some ⟨WB, 0, none⟩), .int .i64 (i : Nat)] wr (fun e w' => e = .returned (.tuple #[.string (W (L.getD i 0)).nm, .int .i64 (W (L.getD i 0)).tx, .int .i64 (W (L.getD i 0)).od, .int .i64 (W (L.getD i 0)).rk, .bool (W (L.getD i 0)).up]) ∧ ∃ m, w' = wr.drewN m)
theorem GPost.reads {base base0 WB nh nw ch cw : Nat} {ah aw : Option Addr} {R : Nat → HRec} {W : Nat → WRec} {Bk : Value} {name : ByteArray} {w : World} {e : Ending} {w' : World} (h : GPost base base0 WB nh nw ch cw ah aw R W Bk name w e w') : ∃ Hs L, Reads w' WB nh nw R W name Hs L := by
  obtain ⟨rfl, MB, H, V, Hs, L, n, m, hr, hM, hmp, hok, hsrt, hmem, oh, ow, bl⟩ := h
  have oH := hr.oH
  rw [hflat_eq] at oH
  obtain ⟨aH, cH, eH, _, hcH⟩ := own_in (f := fun i => [.int .i64 (key Hs i), .int .i64 (val Hs i)]) (fun _ => rfl) oH
  obtain ⟨aV, cV, eV, _⟩ := own_cut hr.oV
  have c1 : w'.cell? ⟨WB, 1, none⟩ = some (.slice aH Hs.length cH) := by rw [← eH]; exact hr.st.cell (i := 1) (by omega)
  have c2 : w'.cell? ⟨WB, 2, none⟩ = some (.slice aV L.length cV) := by rw [← eV]; exact hr.st.cell (i := 2) (by omega)
  refine ⟨Hs, L, hok, hsrt, hmem, fun wr hb => ?_, fun i wr hi hb => ?_, fun wr hb => ?_, fun i wr hi hb => ?_⟩
  · exact holdersLen_any WB Hs.length aH cH wr (cell_bl c1 hb)
  · obtain ⟨b, rfl, _, _, _, hcs⟩ := hcH (by omega)
    exact holderAt_any WB Hs.length b 0 cH i (key Hs i) (val Hs i) wr (cell_bl c1 hb) hi (cell_bl (hcs i hi 0 (by omega)) hb) (cell_bl (hcs i hi 1 (by omega)) hb)
  · exact aroundLen_any WB L.length aV cV wr (cell_bl c2 hb)
  · have hx : L.getD i 0 ∈ L := by
      rw [List.getD_eq_getElem?_getD, List.getElem?_eq_getElem hi]
      exact List.getElem_mem _
    have hxn := ((hmem _).1 hx).1
    obtain ⟨a1, k1, hv, _, hcs⟩ := own_in (f := fun i => wc (W i)) (fun _ => rfl) ow
    obtain ⟨lb, ha, _, _, _, hcl⟩ := hcs (by omega)
    injection hv with e1 e2 e3
    subst e1; subst ha
    obtain ⟨_, ⟨e0, hn0⟩ | ⟨g, cap, cur, hv2, _, _⟩⟩ := hr.oV
    · omega
    · have oV := hr.oV
      rw [eV] at hv2 oV
      injection hv2 with e4 e5 e6
      subst e4
      have hp := own_cell oV hi
      rw [List.getD_eq_getElem?_getD, List.getElem?_map, List.getElem?_eq_getElem hi] at hp
      have hp' : w'.cell? ⟨g, 0 + i, none⟩ = some (.pointer (some ⟨lb, 0 + L.getD i 0 * 5, none⟩)) := by
        rw [Nat.zero_add, hp, List.getD_eq_getElem?_getD, List.getElem?_eq_getElem hi]; rfl
      have hk : ∀ j, j < 5 → w'.cell? ⟨lb, 0 + L.getD i 0 * 5 + j, none⟩ = some ((wc (W (L.getD i 0))).getD j undef) := fun j hj => hcl _ hxn j hj
      exact aroundAt_any WB L.length g 0 cV i lb (0 + L.getD i 0 * 5) (W (L.getD i 0)) wr (cell_bl c2 hb) hi (cell_bl hp' hb) (cell_bl (hk 0 (by omega)) hb) (cell_bl (hk 1 (by omega)) hb) (cell_bl (hk 2 (by omega)) hb) (cell_bl (hk 3 (by omega)) hb) (cell_bl (hk 4 (by omega)) hb)
theorem zzgather_any (WB : Nat) (a b : Option Addr) (n m c d : Nat) (name : ByteArray) (w : World) (R : World → Prop)
    (h : Calls Try.prog 24 #[.pointer (some ⟨WB, 0, none⟩), .agg #[.slice a n c, .slice b m d], .string name] (w.alloc (.cells #[.slice a n c, .slice b m d] 30)) (fun e w' => e = .returned (.tuple #[]) ∧ R w')) :
    Calls Try.prog 12 #[.pointer (some ⟨WB, 0, none⟩), .agg #[.slice a n c, .slice b m d], .string name] w (fun e w' => e = .returned (.tuple #[]) ∧ R w') := by
  have c0 : (w.alloc (.cells #[.slice a n c, .slice b m d] 30)).cell? ⟨w.heap.size, 0, none⟩ = some (.slice a n c) := (Row.new w #[.slice a n c, .slice b m d] 30 _ two_cells).cell (i := 0) (by simp)
  have c1 : (w.alloc (.cells #[.slice a n c, .slice b m d] 30)).cell? ⟨w.heap.size, 1, none⟩ = some (.slice b m d) := (Row.new w #[.slice a n c, .slice b m d] 30 _ two_cells).cell (i := 1) (by simp)
  go_enter Try.func12, Try.ntmps12
  go_wp2_with (go_at_call 24; refine h.mono ?_; rintro e w2 ⟨rfl, hR⟩)
  go_end0
  exact ⟨rfl, hR⟩
/-- Premises in one. -/
theorem gok_of {R : Nat → HRec} {W : Nat → WRec} {nh nw : Nat} (h1 : nh ≤ 4096) (h2 : nw ≤ 4096) (hP : Prem R W nh nw) (hs : HSmall R nh) (ws : WSmall W nw) (tx : ∀ i, i < nh → (Lit.int .i64 (R i).tx).wf = true) : ∀ G : GC, G.nh = nh → G.nw = nw → G.R = R → G.W = W → GOk G := by
  rintro G e1 e2 e3 e4
  exact ⟨by rw [e1]; exact h1, by rw [e2]; exact h2, by rw [e1, e3]; exact hP.1, by rw [e2, e4]; exact hP.2.1, by rw [e1, e3]; exact hs, by rw [e2, e4]; exact ws, by rw [e1, e3]; exact tx⟩
theorem od_inj {R : Nat → HRec} {W : Nat → WRec} {nh nw : Nat} (hP : Prem R W nh nw) : ∀ a b, a < nw → b < nw → (W a).od = (W b).od → a = b := fun a b ha hb e => by
  rcases Nat.lt_trichotomy a b with c | c | c
  · exact absurd e (hP.2.2 a b c hb)
  · exact c
  · exact absurd e.symm (hP.2.2 b a c ha)
end Go.Proofs.Qxb6612537a.U
