import Derived.Test.Qxb6612537aGRs
/-! v[:0] of a slice that is the call's own. -/
namespace Go.Proofs.Qxb6612537a.U
open Go.RowKit Go.Proofs.Qxb6612537a.Plain
set_option linter.unusedVariables false
theorem cut56_nil (W : World) : Sem.run Try.prog (Instr.slice 56 (.slice none 0 0) none (some (.int .i64 0)) none) W = .ok (.slice none 0 0) W := by kernel_rfl
theorem cut57_nil (W : World) : Sem.run Try.prog (Instr.slice 57 (.slice none 0 0) none (some (.int .i64 0)) none) W = .ok (.slice none 0 0) W := by kernel_rfl
theorem cut56 (g n c : Nat) (W : World) : Sem.run Try.prog (Instr.slice 56 (.slice (some ⟨g, 0, none⟩) n c) none (some (.int .i64 0)) none) W = .ok (.slice (some ⟨g, 0, none⟩) 0 c) W := by
  simp [Instr.slice, go_sem, run_underlying Try.underlying56]
theorem cut57 (g n c : Nat) (W : World) : Sem.run Try.prog (Instr.slice 57 (.slice (some ⟨g, 0, none⟩) n c) none (some (.int .i64 0)) none) W = .ok (.slice (some ⟨g, 0, none⟩) 0 c) W := by
  simp [Instr.slice, go_sem, run_underlying Try.underlying57]
theorem own_cut {w : World} {base : Nat} {e : TypeId} {size n : Nat} {v : Value} {xs : List Value} (h : w.ownsRow base e size v n xs) :
    ∃ a c, v = .slice a n c ∧ (∀ W, Sem.run Try.prog (Instr.slice 56 (.slice a n c) none (some (.int .i64 0)) none) W = .ok (.slice a 0 c) W) ∧ (∀ W, Sem.run Try.prog (Instr.slice 57 (.slice a n c) none (some (.int .i64 0)) none) W = .ok (.slice a 0 c) W) ∧
      w.ownsRow base e size (.slice a 0 c) 0 [] ∧ Value.ownBlock (.slice a 0 c) = v.ownBlock := by
  obtain ⟨hl, ⟨rfl, rfl⟩ | ⟨g, cap, cur, rfl, hb, hg, hn, hc, hs, ht⟩⟩ := h
  · exact ⟨none, 0, rfl, cut56_nil, cut57_nil, ⟨by simp, .inl ⟨rfl, rfl⟩⟩, rfl⟩
  · exact ⟨some ⟨g, 0, none⟩, cap, rfl, cut56 g n cap, cut57 g n cap, ⟨by simp, .inr ⟨g, cap, cur, rfl, hb, hg, Nat.zero_le _, hc, hs, by simp⟩⟩, rfl⟩
/-- What gather leaves. -/
def GDone (G : GC) (P : Nm → Prop) (w : World) : Prop :=
  ∃ (H V : Value) (Hs : AL) (L : List Nat) (n : Nat) (m : Int → Option Int), Row w G.WB 60 4 (four (.map (some G.MB)) H V G.Bk) ∧ MapIs w G.MB n m ∧ w.ownsRow G.base 85 2 H Hs.length (hflat Hs) ∧ HsOk G.R G.nh P Hs ∧
    w.ownsRow G.base 77 1 V L.length (L.map (ptrAt G.aw)) ∧ Srt (fun k => (G.W k).od) L ∧ (∀ x, x ∈ L ↔ x < G.nw ∧ P (By (G.W x).nm)) ∧ Env G w
/-- Sorted, and no two of one order: strictly. -/
theorem srt_strict {W : Nat → WRec} {nw : Nat} (hod : ∀ a b, a < nw → b < nw → (W a).od = (W b).od → a = b) : ∀ {L : List Nat}, L.Nodup → (∀ x, x ∈ L → x < nw) → (L.Pairwise fun a b => ¬ (W b).od < (W a).od) → Srt (fun k => (W k).od) L
  | [], _, _, _ => .nil
  | x :: L, hd, hx, hp => by
    rw [List.nodup_cons] at hd
    rw [List.pairwise_cons] at hp
    refine List.pairwise_cons.2 ⟨fun y hy => ?_, srt_strict hod hd.2 (fun z hz => hx z (by simp [hz])) hp.2⟩
    have h1 := hp.1 y hy
    have hne : (W x).od ≠ (W y).od := fun e => by
      have := hod x y (hx x (by simp)) (hx y (by simp [hy])) e
      exact hd.1 (this ▸ hy)
    show (W x).od < (W y).od
    omega
end Go.Proofs.Qxb6612537a.U
