import Derived.Test.Qxb6600065aPermute
namespace Go.Proofs.Qxb6600065a.fnPermuteThenInverseRestores
open Go.ChangeShapes Go.WideShapes Go.ChangeAt Go.RowKit Go.Proofs.Qxb6600065a.Plain
set_option linter.unusedVariables false

theorem info48 : (Try.prog.info? 48).map (fun i => (i.zero, i.size, i.bytes)) = some (some (.agg #[.int .u8 0, .int .u8 0, .int .u8 0, .int .u8 0, .int .u8 0, .int .u8 0, .int .u8 0, .int .u8 0, .int .u8 0, .int .u8 0, .int .u8 0, .int .u8 0, .int .u8 0, .int .u8 0, .int .u8 0, .int .u8 0, .int .u8 0, .int .u8 0, .int .u8 0, .int .u8 0, .int .u32 0]), 21, 24) := by kernel_rfl
def key0 : Array Value := #[.int .u8 0, .int .u8 0, .int .u8 0, .int .u8 0, .int .u8 0, .int .u8 0, .int .u8 0, .int .u8 0, .int .u8 0, .int .u8 0, .int .u8 0, .int .u8 0, .int .u8 0, .int .u8 0, .int .u8 0, .int .u8 0, .int .u8 0, .int .u8 0, .int .u8 0, .int .u8 0, .int .u32 0]
theorem key0_cells : ∀ j, j < key0.size → key0[j]? = some (if j = 20 then .int .u32 0 else .int .u8 0) := by
  intro j hj
  have hj' : j < 21 := hj
  match j, hj' with
  | 0, _ | 1, _ | 2, _ | 3, _ | 4, _ | 5, _ | 6, _ | 7, _ | 8, _ | 9, _ | 10, _ | 11, _ | 12, _ | 13, _ | 14, _ | 15, _ | 16, _ | 17, _ | 18, _ | 19, _ | 20, _ => rfl
  | n + 21, h => exact absurd h (by omega)

/-- The first k are p's, the rest 0. -/
def pUp (p : Nat → Nat) (k : Nat) (i : Nat) : Nat := if i < k then p i else 0
theorem pUp_step (p : Nat → Nat) (k : Nat) : upd (pUp p k) k (p k) = pUp p (k + 1) := by
  funext i
  unfold upd pUp
  by_cases e : i = k
  · subst e; rw [if_pos rfl, if_pos (by omega)]
  · rw [if_neg e]
    by_cases e2 : i < k
    · rw [if_pos e2, if_pos (by omega)]
    · rw [if_neg e2, if_neg (by omega)]
theorem pUp_zero (p : Nat → Nat) (c : Nat) : (if c % key0.size = 20 then Value.int .u32 0 else .int .u8 0) = KC (pUp p 0) c := by
  show (if c % 21 = 20 then _ else _) = _
  unfold KC pUp
  by_cases e : c % 21 = 20
  · rw [if_pos e, if_pos e]; rfl
  · rw [if_neg e, if_neg e]

def ZPost (hb pb n : Nat) (z : Nat → Int) (g p : Nat → Nat) (w : World) (e : Ending) (w' : World) : Prop :=
  e = .returned (.tuple #[]) ∧ Keeps (fun k => k = hb ∨ k = pb) w w' ∧ w'.rowIs hb 40 (n * 7) (HG z (fun i => g (p i)))

set_option maxHeartbeats 1000000 in
theorem zzpermute_any (hb pb n : Nat) (a1 : Option Addr) (c1 : Nat) (z : Nat → Int) (g p : Nat → Nat) (w : World) (hn : n ≤ 65536) (hne : pb ≠ hb) (hH : w.rowIs hb 40 (n * 7) (HG z g))
    (hP : 0 < n → a1 = some ⟨pb, 0, none⟩ ∧ w.rowIs pb 35 n (fun i => .int .u32 (p i))) (hp : IsP n p) :
    Calls Try.prog 14 #[.slice (some ⟨hb, 0, none⟩) n n, .slice a1 n c1] w (ZPost hb pb n z g p w) := by
  have hmk := run_make_rows (P := Try.prog) 45 48 _ 21 24 Try.underlying45 info48 .i64 .i64 n (by omega) (by omega)
  have hmk' : ∀ w : World, (Instr.makeSlice 45 (.int .i64 (n : Int)) (.int .i64 (n : Int))).run Try.prog w = .ok (.slice (some ⟨w.heap.size, 0, none⟩) n n) (w.alloc (.cells (madeCells key0 (n * 21)) 48)) := hmk
  have hlb : hb < w.heap.size := hH.lt
  have HH : Hid (w.rowIs hb 40 (n * 7) (HG z g)) := hH
  have HPl : Hid (0 < n → a1 = some ⟨pb, 0, none⟩ ∧ w.rowIs pb 35 n (fun i => .int .u32 (p i))) := hP
  have HP : Hid (IsP n p) := hp
  clear hH hP hp hmk
  go_enter Try.func14, Try.ntmps14
  go_wp2
  go_loopw [5] (fun s wr => ∃ k : Nat, k ≤ n ∧ s = .int .i64 k ∧ wr.rowIs w.heap.size 48 (n * 21) (KC (pUp p k)) ∧ Below w.heap.size w wr) (fun s _ => n - (intOf s).toNat)
  case atStart =>
    exact ⟨0, Nat.zero_le _, rfl, (World.rowIs_mades _ _ _ _ (fun j => if j = 20 then .int .u32 0 else .int .u8 0) (by decide) key0_cells).congr (fun c _ => pUp_zero p c), (Below.refl _ _).alloc (Nat.le_refl _) _⟩
  case round =>
    obtain ⟨k, hk, rfl, hrK, hbl⟩ := hrel
    have GK : Hid (wr.rowIs w.heap.size 48 (n * 21) (KC (pUp p k))) := hrK
    have GB : Hid (Below w.heap.size w wr) := hbl
    clear hmk' hbl
    by_cases hlt : k < n
    · obtain ⟨rfl, hrP⟩ := HPl.out (by omega)
      have hpb : pb < w.heap.size := hrP.lt
      have cp : wr.cell? ⟨pb, k, none⟩ = some (.int .u32 (p k)) := (GB.out.cell (by exact hpb)).trans (hrP.cell hlt)
      have hpk : p k < n := HP.out.1 k hlt
      have ck : wr.cell? ⟨w.heap.size, k * 21 + 20, none⟩ = some (.int .u32 (pUp p k k)) := (hrK.cell (by omega)).trans (congrArg some (KC_at _ k))
      have fk := hrK.frozen
      clear hrP hrK
      go_wp2
      go_roundw
      case rel =>
        refine ⟨k + 1, by omega, by go_num, ?_, GB.out.setCell (Nat.le_refl _) _⟩
        rw [← pUp_step]
        exact (GK.out.set (k * 21 + 20) (.int .u32 (p k))).congr (fun c _ => KC_store _ k (p k) c)
      case measure => simp [intOf]; omega
    · have hkn : k = n := by omega
      have GK2 : Hid (wr.rowIs w.heap.size 48 (n * 21) (KC p)) := by
        refine hrK.congr fun c hc => ?_
        unfold KC pUp
        by_cases e : c % 21 = 20
        · rw [if_pos e, if_pos e, if_pos (by omega)]
        · rw [if_neg e, if_neg e]
      clear hrK hkn
      go_wp2_with fail
      refine (permute_any hb w.heap.size n z g p _ hn (by omega) (HH.out.of_block (GB.out.block _ hlb)) GK2.out HP.out).mono ?_
      rintro e w2 ⟨rfl, hkp, hrH2, hrK2⟩
      have PH : Hid (w2.rowIs hb 40 (n * 7) (HG z (fun i => g (p i)))) := hrH2
      have PK : Hid (w2.rowIs w.heap.size 48 (n * 21) (KC (fun i => i))) := hrK2
      have PKp : Hid (Keeps (fun k => k = hb ∨ k = w.heap.size) wr w2) := hkp
      clear hkp hrH2 hrK2 GK2 GK
      obtain ⟨wo, hwo⟩ : ∃ wo, wo = wr := ⟨_, rfl⟩
      subst hwo
      have PKw : Hid (Keeps (fun k => k = hb ∨ k = pb) w w2) := by
        have k1 := GB.out
        have k2 := PKp.out
        exact ⟨k2.os.trans k1.os, k2.tape.trans k1.tape, k2.output.trans k1.output, Nat.le_trans k1.size k2.size, fun i hi hs => (k2.block i (Nat.lt_of_lt_of_le hi k1.size) (by
          rintro (rfl | rfl)
          · exact hs (.inl rfl)
          · omega)).trans (k1.block i hi)⟩
      have PP : Hid (0 < n → w2.rowIs pb 35 n (fun i => .int .u32 (p i))) := fun h0 => by
        have hr := (HPl.out h0).2
        have hlt2 : pb < w.heap.size := hr.lt
        have r1 := hr.of_block (GB.out.block pb hlt2)
        exact PKp.out.row r1 (by rintro (rfl | h); exact hne rfl; omega)
      go_wp2
      go_loopw [6] (fun s wr => ∃ (k : Nat) (u : Nat → Int), k ≤ n ∧ s = .int .i64 k ∧ wr.rowIs hb 40 (n * 7) (HG z (fun i => g (p i))) ∧ wr.rowIs w.heap.size 48 (n * 21) (KC (fun i => i)) ∧ (0 < n → wr.rowIs pb 35 n (fun i => .int .u32 (u i))) ∧ Keeps (fun k => k = hb ∨ k = pb) w wr) (fun s _ => n - (intOf s).toNat)
      case atStart => exact ⟨0, fun i => p i, Nat.zero_le _, rfl, PH.out, PK.out, PP.out, PKw.out⟩
      case round =>
        obtain ⟨j, u, hj, rfl, hrH, hrK, hrP, hkp⟩ := hrel
        have GH : Hid (wr.rowIs hb 40 (n * 7) (HG z (fun i => g (p i)))) := hrH
        have GK : Hid (wr.rowIs w.heap.size 48 (n * 21) (KC (fun i => i))) := hrK
        have GP : Hid (0 < n → wr.rowIs pb 35 n (fun i => .int .u32 (u i))) := hrP
        have GKp : Hid (Keeps (fun k => k = hb ∨ k = pb) w wr) := hkp
        clear hrP hkp
        by_cases hlt2 : j < n
        · obtain ⟨rfl, hr0⟩ := HPl.out (by omega)
          have hpb : pb < w.heap.size := hr0.lt
          have hrP := GP.out (by omega)
          have cp : wr.cell? ⟨pb, j, none⟩ = some (.int .u32 (u j)) := hrP.cell hlt2
          have fp := hrP.frozen
          have ck : wr.cell? ⟨w.heap.size, j * 21 + 20, none⟩ = some (.int .u32 j) := (hrK.cell (by omega)).trans (congrArg some (KC_at _ j))
          clear hrP hr0 hrK hrH
          go_wp2
          go_roundw
          case rel =>
            refine ⟨j + 1, fun i => if i = j then j else u i, by omega, by go_num, GH.out.setOther (a := ⟨pb, j, none⟩) (Ne.symm hne) _, GK.out.setOther (a := ⟨pb, j, none⟩) (by show w.heap.size ≠ pb; omega) _, fun h0 => (GP.out h0 |>.set j (.int .u32 j)).congr (fun i _ => ?_), GKp.out.setCell (.inl (.inr rfl)) _⟩
            show (if i = j then Value.int .u32 j else .int .u32 (u i)) = .int .u32 (if i = j then (j : Int) else u i)
            split <;> rfl
          case measure => simp [intOf]; omega
        · clear hrH hrK
          go_wp2
          go_end0
          exact ⟨rfl, GKp.out, GH.out⟩

end Go.Proofs.Qxb6600065a.fnPermuteThenInverseRestores
