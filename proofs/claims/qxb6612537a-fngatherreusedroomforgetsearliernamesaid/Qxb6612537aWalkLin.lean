import Derived.Test.Qxb6612537aRange
import Derived.Test.Qxb6612537aDot
import Derived.TacticsIn
import Derived.RegionIn
import Derived.Sort.LoopGhostIn
namespace Go.Proofs.Qxb6612537a.U
open Go.RowKit Go.Proofs.Qxb6612537a.Plain
set_option linter.unusedVariables false
set_option linter.unusedSimpArgs false

/-- The names that lineage yields, one after the other. -/
def LinSeq (nm : Nat → ByteArray) (N : Nat) : Prop :=
  0 < N ∧ (∀ k, k + 1 < N → ∃ i, LastDot (By (nm k)) i ∧ nm (k + 1) = (nm k).extract 0 i) ∧ ∀ k, k + 1 = N → NoDot (By (nm k))
theorem lastDot_uniq {n : Nm} {i j : Nat} (h : LastDot n i) (h' : LastDot n j) : i = j := by
  rcases Nat.lt_trichotomy i j with c | c | c
  · exact absurd h'.1 (h.2 j c)
  · exact c
  · exact absurd h.1 (h'.2 i c)
attribute [local go_sem] Oper.semAt_some
set_option maxRecDepth 100000 in
set_option maxHeartbeats 2000000 in
theorem lin53_any (B l n N : Nat) (nm : Nat → ByteArray) (J : Nat → World → Prop) (W : World) (hn : LinSeq nm N) (hsz : ∀ k, k < N → (nm k).size ≤ 1048576)
    (hJ : ∀ k W v, J k W → J k (W.setCell ⟨B, 0, none⟩ v))
    (hY : ∀ k, k < N → ∀ W, J k W → W.cell? ⟨B, 0, none⟩ = some (.string (nm k)) → W.frozen? ⟨B, 0, none⟩ = false → YieldAt Fence.wide (n - 1) Try.prog l #[.string (nm k)] W (fun e W' => e = .returned (.bool true) ∧ J (k + 1) W' ∧ W'.cell? ⟨B, 0, none⟩ = some (.string (nm k)) ∧ W'.frozen? ⟨B, 0, none⟩ = false))
    (h0 : J 0 W) (hc : W.cell? ⟨B, 0, none⟩ = some (.string (nm 0))) (hf : W.frozen? ⟨B, 0, none⟩ = false) :
    CallsIn Fence.wide n Try.prog 53 #[.func (.yield l) #[] #[], .pointer (some ⟨B, 0, none⟩)] W (fun e W' => (∃ v, e = .returned v) ∧ J N W') := by
  refine callsIn_of_wp Try.func53 rfl trivial ?_ rfl
  simp only [Try.ntmps53, List.size_toArray, List.length_cons, List.length_nil, Nat.reduceAdd, Nat.reduceSub, Array.replicate_succ, Array.replicate_zero, List.push_toArray, List.append_toArray, List.nil_append, List.cons_append]
  gi_wp2
  gi_loopg [3] N (fun gk s3 wr => ∃ k : Nat, gk = N - k ∧ k < N ∧ J k wr ∧ wr.cell? ⟨B, 0, none⟩ = some (.string (nm k)) ∧ wr.frozen? ⟨B, 0, none⟩ = false)
  case atStart => exact ⟨0, rfl, hn.1, h0, hc, hf⟩
  case round =>
    clear h0 hc hf
    obtain ⟨k, rfl, hk, hj, hc, hf⟩ := hrel
    obtain ⟨f1, t1, a1, b1, hy1, hR1⟩ := hY k hk wr hj hc hf
    gi_wp2
    refine ⟨fun hd => absurd hd (by simp [Fence.wide]), hR1.mono ?_⟩
    rintro e W1 ⟨rfl, hj1, hc1, hf1⟩
    clear hy1 hR1 hj hc hf
    have C := (callsIn_wide (n := n - 1)).2 (parentEnd_any (nm k) W1 (hsz k hk))
    by_cases hk1 : k + 1 < N
    · obtain ⟨i, hi, he⟩ := hn.2.1 k hk1
      have hlt : i < (nm k).size := by have := lastDot_lt hi; rwa [by_len] at this
      have hsz1 := hsz k hk
      have hl0 : ¬ ((i : Nat) : Int) < 0 := by omega
      have hl1 : ((i : Nat) : Int) ≤ ((nm k).size : Int) := by omega
      gi_wp2_with fail
      refine ⟨trivial, fun hd => absurd hd (by simp [Fence.wide]), C.mono ?_⟩
      rintro e w2 ⟨rfl, hdot⟩
      have hE : e = .returned (.int .i64 (i : Nat)) := by
        rcases hdot with ⟨_, hnd⟩ | ⟨j, hj, hld⟩
        · exact absurd hi.1 (hnd i)
        · rw [lastDot_uniq hi hld]; exact hj
      subst hE
      clear hdot C
      gi_wp2
      gi_roundg (N - (k + 1))
      case measure => omega
      case rel => exact ⟨k + 1, rfl, hk1, hJ _ _ _ hj1, by rw [he]; exact World.cell?_setCell_same' _ _ _ (by rw [hc1]; rfl), by rw [World.frozen?_setCell]; exact hf1⟩
    · have hkN : k + 1 = N := by omega
      have hnd := hn.2.2 k hkN
      gi_wp2_with fail
      refine ⟨trivial, fun hd => absurd hd (by simp [Fence.wide]), C.mono ?_⟩
      rintro e w2 ⟨rfl, hdot⟩
      have hE : e = .returned (.int .i64 (-1)) := by
        rcases hdot with ⟨h, _⟩ | ⟨j, hj, hld⟩
        · exact h
        · exact absurd hld.1 (hnd j)
      subst hE
      clear hdot C
      gi_wp2
      refine bodyPost_ret (results_none rfl _ _ _) rfl ?_
      exact ⟨⟨_, rfl⟩, hkN ▸ hj1⟩
end Go.Proofs.Qxb6612537a.U
