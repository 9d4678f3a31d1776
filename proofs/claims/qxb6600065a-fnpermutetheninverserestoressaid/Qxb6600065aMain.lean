import Derived.Test.Qxb6600065aZZ
import Derived.BigQuiet
namespace Go.Proofs.Qxb6600065a.fnPermuteThenInverseRestores
open Go.ChangeShapes Go.WideShapes Go.ChangeAt Go.RowKit Go.Proofs.Qxb6600065a.Plain
set_option linter.unusedVariables false

theorem Reads.of_row {w : World} {a : Option Addr} {b len : Nat} {z : Nat → Int} (h : 0 < len → a = some ⟨b, 0, none⟩ ∧ w.rowIs b 35 len (fun i => .int .u32 (z i))) : Reads w a len z := fun h0 => by
  obtain ⟨h1, h2⟩ := h h0
  exact ⟨b, 0, h1, h2.lt, fun i hi => by simpa using h2.cell hi⟩
theorem Reads.below {w w' : World} {a : Option Addr} {len : Nat} {z : Nat → Int} (h : Reads w a len z) (hb : Below w.heap.size w w') : Reads w' a len z := fun h0 => by
  obtain ⟨b, off, h1, h2, h3⟩ := h h0
  exact ⟨b, off, h1, Nat.lt_of_lt_of_le h2 hb.size, fun i hi => (hb.cell (by exact h2)).trans (h3 i hi)⟩

/-- What the law's first tests let by. -/
def Small (n0 n1 : Nat) : Prop := n0 ≤ 65536 ∧ n1 = n0

theorem bytes_any (a0 : Option Addr) (n0 c0 : Nat) (a1 : Option Addr) (n1 c1 : Nat) (w : World) :
    Calls Try.prog 15 #[.slice a0 n0 c0, .slice a1 n1 c1] w fun e w' => (e = .returned (.bool true) ∨ e = .returned (.bool false)) ∧ w' = w := by
  by_cases h1 : n0 ≤ 1048576
  · by_cases h2 : n1 ≤ 1048576
    · by_cases h3 : n0 + n1 ≤ 1048576
      · have h3' : (n0 : Int) + n1 ≤ 1048576 := by omega
        go_enter Try.func15, Try.ntmps15
        go_wp2
        go_ret
        exact ⟨.inl rfl, rfl⟩
      · have h3' : 1048576 < (n0 : Int) + n1 := by omega
        go_enter Try.func15, Try.ntmps15
        go_wp2
        go_ret
        exact ⟨.inr rfl, rfl⟩
    · have h2' : 1048576 < (n1 : Int) := by omega
      go_enter Try.func15, Try.ntmps15
      go_wp2
      go_ret
      exact ⟨.inr rfl, rfl⟩
  · have h1' : 1048576 < (n0 : Int) := by omega
    go_enter Try.func15, Try.ntmps15
    go_wp2
    go_ret
    exact ⟨.inr rfl, rfl⟩

theorem hg_id (z : Nat → Int) : HG z (fun i => i) = fun c => HC z (c / 7) (c % 7) := rfl

set_option maxHeartbeats 1000000 in
theorem main_any (a0 : Option Addr) (n0 c0 : Nat) (z0 : Nat → Int) (a1 : Option Addr) (n1 c1 : Nat) (p : Nat → Nat) (w : World) (r0 : Reads w a0 n0 z0) (r1 : Reads w a1 n1 (fun i => (p i : Int))) (u1 : InU32 n1 (fun i => (p i : Int))) :
    Calls Try.prog 7 #[.slice a0 n0 c0, .slice a1 n1 c1] w fun e w' => e = .returned (.bool true) ∧ Below w.heap.size w w' := by
  have R0 : Hid (Reads w a0 n0 z0) := r0
  have R1 : Hid (Reads w a1 n1 (fun i => (p i : Int))) := r1
  have U1 : Hid (InU32 n1 (fun i => (p i : Int))) := u1
  clear r0 r1 u1
  by_cases hs : n0 ≤ 65536 ∧ n1 = n0
  · obtain ⟨hs0, rfl⟩ := hs
    go_enter Try.func7, Try.ntmps7
    go_wp2_with fail
    refine (bytes_any _ _ _ _ _ _ _).mono ?_
    rintro e w' ⟨he, rfl⟩
    rcases he with rfl | rfl
    · go_wp2_with fail
      refine (isPerm_any _ _ _ _ _ hs0 R1.out U1.out).mono ?_
      rintro e w1 ⟨r, rfl, hP, hb⟩
      have B1 : Hid (Below w'.heap.size w' w1) := hb
      cases r with
      | false =>
        clear hP hb
        go_wp2
        go_ret
        exact ⟨rfl, B1.out⟩
      | true =>
        have HP : Hid (IsP n1 p) := show IsP n1 p by simpa using hP rfl
        clear hP hb
        go_wp2_with fail
        refine (clone_any _ _ _ _ _ hs0 (R0.out.below B1.out)).mono ?_
        rintro e w2 ⟨b0, d0, rfl, hb, hv⟩
        have B2 : Hid (Below w1.heap.size w1 w2) := hb
        have V2 : Hid (0 < n1 → b0 = some ⟨w1.heap.size, 0, none⟩ ∧ w2.rowIs w1.heap.size 35 n1 (fun i => .int .u32 (z0 i))) := hv
        clear hb hv
        go_wp2_with fail
        refine (clone_any _ _ _ _ _ hs0 ((R1.out.below B1.out).below B2.out)).mono ?_
        rintro e w3 ⟨b1, d1, rfl, hb, hv⟩
        have B3 : Hid (Below w2.heap.size w2 w3) := hb
        have V3 : Hid (0 < n1 → b1 = some ⟨w2.heap.size, 0, none⟩ ∧ w3.rowIs w2.heap.size 35 n1 (fun i => .int .u32 (p i))) := hv
        clear hb hv
        go_wp2_with fail
        refine (holdings_any _ _ _ z0 _ hs0 ((Reads.of_row V2.out).below B3.out)).mono ?_
        rintro e w4 ⟨rfl, hb, hv⟩
        have B4 : Hid (Below w3.heap.size w3 w4) := hb
        have V4 : Hid (w4.rowIs w3.heap.size 40 (n1 * 7) (HG z0 (fun i => i))) := hv
        clear hb hv
        go_wp2_with fail
        refine (clone_any _ _ _ _ _ hs0 ((Reads.of_row V3.out).below B4.out)).mono ?_
        rintro e w5 ⟨b2, d2, rfl, hb, hv⟩
        have B5 : Hid (Below w4.heap.size w4 w5) := hb
        have V5 : Hid (0 < n1 → b2 = some ⟨w4.heap.size, 0, none⟩ ∧ w5.rowIs w4.heap.size 35 n1 (fun i => .int .u32 (p i))) := hv
        clear hb hv
        go_wp2_with fail
        refine (zzpermute_any w3.heap.size w4.heap.size n1 _ _ z0 (fun i => i) p _ hs0 (by have := V4.out.lt; omega) (V4.out.of_block (B5.out.block _ V4.out.lt)) V5.out HP.out).mono ?_
        rintro e w6 ⟨rfl, hb, hv⟩
        have B6 : Hid (Keeps (fun k => k = w3.heap.size ∨ k = w4.heap.size) w5 w6) := hb
        have V6 : Hid (w6.rowIs w3.heap.size 40 (n1 * 7) (HG z0 p)) := hv
        clear hb hv
        have hmk := run_make_row' (P := Try.prog) 28 35 (.int .u32 0) 4 Try.underlying28 info35 rfl .i64 .i64 n1 (by omega) (by omega)
        have s1 : w'.heap.size ≤ w1.heap.size := B1.out.size
        have s2 : w1.heap.size ≤ w2.heap.size := B2.out.size
        have s3 : w2.heap.size ≤ w3.heap.size := B3.out.size
        have s4 : w3.heap.size < w4.heap.size := V4.out.lt
        have s5 : w4.heap.size ≤ w5.heap.size := B5.out.size
        have s6 : w5.heap.size ≤ w6.heap.size := B6.out.size
        have W6 : Hid (Below w'.heap.size w' w6) :=
          ((((B1.out.trans (B2.out.mono s1)).trans (B3.out.mono (by omega))).trans (B4.out.mono (by omega))).trans (B5.out.mono (by omega))).trans (B6.out.below (by omega) (by rintro k (rfl | rfl) <;> omega))
        have Q6 : Hid (0 < n1 → b0 = some ⟨w1.heap.size, 0, none⟩ ∧ w6.rowIs w1.heap.size 35 n1 (fun i => .int .u32 (z0 i)) ∧ w1.heap.size < w2.heap.size) := fun h0 => by
          obtain ⟨h1, h2⟩ := V2.out h0
          have hl : w1.heap.size < w2.heap.size := h2.lt
          exact ⟨h1, B6.out.row (((h2.of_block (B3.out.block _ hl)).of_block (B4.out.block _ (by omega))).of_block (B5.out.block _ (by omega))) (by rintro (h | h) <;> omega), hl⟩
        have P6 : Hid (0 < n1 → b1 = some ⟨w2.heap.size, 0, none⟩ ∧ w6.rowIs w2.heap.size 35 n1 (fun i => .int .u32 (p i)) ∧ w2.heap.size < w3.heap.size) := fun h0 => by
          obtain ⟨h1, h2⟩ := V3.out h0
          have hl : w2.heap.size < w3.heap.size := h2.lt
          exact ⟨h1, B6.out.row ((h2.of_block (B4.out.block _ hl)).of_block (B5.out.block _ (by omega))) (by rintro (h | h) <;> omega), hl⟩
        clear B1 B2 B3 B4 B5 B6 V2 V3 V4 V5 R0 R1
        go_wp2
        go_loopw [7] (fun s wr => ∃ (k : Nat) (f : Nat → Nat), k ≤ n1 ∧ s = .int .i64 k ∧ wr.rowIs w6.heap.size 35 n1 (fun j => .int .u32 (f j)) ∧ (∀ i, i < k → f (p i) = i) ∧ Below w6.heap.size w6 wr) (fun s _ => n1 - (intOf s).toNat)
        case atStart => exact ⟨0, fun _ => 0, Nat.zero_le _, rfl, World.rowIs_made _ _ _ _, fun i hi => absurd hi (Nat.not_lt_zero i), (Below.refl _ _).alloc (Nat.le_refl _) _⟩
        case round =>
          obtain ⟨k, f, hk, rfl, hr, hf, hb⟩ := hrel
          have GR : Hid (wr.rowIs w6.heap.size 35 n1 (fun j => .int .u32 (f j))) := hr
          have GF : Hid (∀ i, i < k → f (p i) = i) := hf
          have GB : Hid (Below w6.heap.size w6 wr) := hb
          clear hf hb hmk
          by_cases hlt : k < n1
          · obtain ⟨rfl, hr2, hl2⟩ := P6.out (by omega)
            have hl6 : w2.heap.size < w6.heap.size := hr2.lt
            have cp : wr.cell? ⟨w2.heap.size, k, none⟩ = some (.int .u32 (p k)) := (GB.out.cell (by exact hl6)).trans (hr2.cell hlt)
            have hpk : p k < n1 := HP.out.1 k hlt
            have ci : wr.cell? ⟨w6.heap.size, p k, none⟩ = some (.int .u32 (f (p k))) := hr.cell hpk
            have fi := hr.frozen
            clear hr hr2
            go_wp2
            go_roundw
            case rel =>
              refine ⟨k + 1, upd f (p k) k, by omega, by go_num, (GR.out.set (p k) (.int .u32 k)).congr (fun j _ => ?_), ?_, GB.out.setCell (Nat.le_refl _) _⟩
              · show (if j = p k then Value.int .u32 k else .int .u32 (f j)) = .int .u32 (upd f (p k) k j : Nat)
                unfold upd
                split <;> rfl
              · intro i hi
                by_cases e : i = k
                · subst e; exact upd_self _ _ _
                · rw [upd_other _ _ (fun h => e (HP.out.2 i k (by omega) hlt h))]
                  exact GF.out i (by omega)
            case measure => simp [intOf]; omega
          · have hkn : k = n1 := by omega
            have GF2 : Hid (∀ i, i < n1 → f (p i) = i) := by subst hkn; exact GF.out
            have sr : w6.heap.size < wr.heap.size := hr.lt
            obtain ⟨wo, hwo⟩ : ∃ wo, wo = wr := ⟨_, rfl⟩
            subst hwo
            clear hr hkn GF
            go_wp2_with fail
            refine (zzpermute_any w3.heap.size w6.heap.size n1 _ _ z0 p f _ hs0 (by omega) (V6.out.of_block (GB.out.block _ (by omega))) (fun _ => ⟨rfl, GR.out⟩) (inverse HP.out GF2.out).1).mono ?_
            rintro e w7 ⟨rfl, hb, hv⟩
            have V7 : Hid (w7.rowIs w3.heap.size 40 (n1 * 7) (HG z0 (fun i => i))) := by
              refine hv.congr fun c hc => ?_
              show HC z0 (p (f (c / 7))) (c % 7) = HC z0 (c / 7) (c % 7)
              rw [(inverse HP.out GF2.out).2 (c / 7) (by omega)]
            have W7 : Hid (Below w'.heap.size w' w7) := (W6.out.trans (GB.out.mono (by omega))).trans (hb.below (by omega) (by rintro k (rfl | rfl) <;> omega))
            have Q7 : Hid (0 < n1 → b0 = some ⟨w1.heap.size, 0, none⟩ ∧ w7.rowIs w1.heap.size 35 n1 (fun i => .int .u32 (z0 i))) := fun h0 => by
              obtain ⟨h1, h2, h3⟩ := Q6.out h0
              exact ⟨h1, hb.row (h2.of_block (GB.out.block _ (by omega))) (by rintro (h | h) <;> omega)⟩
            clear hb hv GB GR W6 Q6 V6 P6
            go_wp2
            go_loopw [8] (fun s wr => ∃ (j nq : Nat), j ≤ n1 ∧ s = .int .i64 j ∧ wr = w7.drewN nq) (fun s _ => n1 - (intOf s).toNat)
            case atStart => exact ⟨0, 0, Nat.zero_le _, rfl, rfl⟩
            case round =>
              obtain ⟨j, nq, hj, rfl, rfl⟩ := hrel
              by_cases hlt2 : j < n1
              · obtain ⟨rfl, hr2⟩ := Q7.out (by omega)
                have cv : w7.cell? ⟨w1.heap.size, j, none⟩ = some (.int .u32 (z0 j)) := hr2.cell hlt2
                obtain ⟨h0, h1, h2, h3, h4, h5, h6⟩ := hg_cells V7.out j hlt2
                clear h0 h1 h4 h5 h6 hr2
                go_wp2
                go_quiet (fail)
                go_wp2
                go_roundw
                case rel => exact ⟨j + 1, _, by omega, by go_num, rfl⟩
                case measure => simp [intOf]; omega
              · go_wp2
                go_ret
                exact ⟨rfl, below_drewN W7.out nq⟩
    · go_wp2
      go_ret
      exact ⟨rfl, Below.refl _ _⟩
  · clear R0 R1 U1
    by_cases h0 : n0 ≤ 65536
    · by_cases h1 : n1 ≤ 65536
      · have hne : (((n0 : Nat) : Int) != ((n1 : Nat) : Int)) = true := by
          have := beqF (a := n0) (b := n1) (by omega)
          simp only [bne, this]; rfl
        go_enter Try.func7, Try.ntmps7
        go_wp2_with fail
        refine (bytes_any _ _ _ _ _ _ _).mono ?_
        rintro e w' ⟨he, rfl⟩
        rcases he with rfl | rfl
        all_goals
          go_wp2
          go_ret
          exact ⟨rfl, Below.refl _ _⟩
      · have h1' : 65536 < (n1 : Int) := by omega
        go_enter Try.func7, Try.ntmps7
        go_wp2_with fail
        refine (bytes_any _ _ _ _ _ _ _).mono ?_
        rintro e w' ⟨he, rfl⟩
        rcases he with rfl | rfl
        all_goals
          go_wp2
          go_ret
          exact ⟨rfl, Below.refl _ _⟩
    · have h0' : 65536 < (n0 : Int) := by omega
      go_enter Try.func7, Try.ntmps7
      go_wp2_with fail
      refine (bytes_any _ _ _ _ _ _ _).mono ?_
      rintro e w' ⟨he, rfl⟩
      rcases he with rfl | rfl
      all_goals
        go_wp2
        go_ret
        exact ⟨rfl, Below.refl _ _⟩
end Go.Proofs.Qxb6600065a.fnPermuteThenInverseRestores
