import Derived.Test.Qxb6612537aLin
namespace Go.Proofs.Qxb6612537a.U
open Go.RowKit Go.Proofs.Qxb6612537a.Plain Go.Lib
set_option linter.unusedVariables false
set_option linter.unusedSimpArgs false

/-- Where a name's last dot is. -/
def DotPost (s : ByteArray) (w : World) (e : Ending) (w' : World) : Prop :=
  w' = w ∧ ((e = .returned (.int .i64 (-1)) ∧ NoDot (By s)) ∨ ∃ i : Nat, e = .returned (.int .i64 (i : Nat)) ∧ LastDot (By s) i)
theorem u46' {x : UInt8} : ((x.toNat : Int) == 46) = false ↔ x ≠ 46 := by
  constructor
  · intro h e; rw [u46.2 e] at h; cases h
  · intro h
    cases e : ((x.toNat : Int) == 46)
    · rfl
    · exact absurd (u46.1 e) h
set_option maxHeartbeats 1000000 in
theorem lastDot72_any (s : ByteArray) (w : World) (hs : s.size ≤ 1048576) : Calls Try.prog 72 #[.string s, .int .u8 46] w (DotPost s w) := by
  go_enter Try.func72, Try.ntmps72
  go_wp2_with fail
  go_loopg [5] s.size (fun gk s5 wr => ∃ k : Nat, gk = k ∧ s5 = .int .i64 ((k : Int) - 1) ∧ k ≤ s.size ∧ wr = w ∧ ∀ j : Nat, k ≤ j → (By s)[j]? ≠ some 46)
  case atStart => exact ⟨s.size, rfl, by go_num, Nat.le_refl _, rfl, fun j hj => by rw [List.getElem?_eq_none (by rw [by_len]; exact hj)]; exact fun h => by cases h⟩
  case round =>
    obtain ⟨_, rfl, rfl, hk, rfl, hno⟩ := hrel
    have HN := hid hno
    clear hno
    by_cases hz : gk = 0
    · subst hz
      go_wp2
      go_ret
      exact ⟨rfl, .inl ⟨rfl, fun j => HN.out j (Nat.zero_le _)⟩⟩
    · obtain ⟨k, rfl⟩ : ∃ k, gk = k + 1 := ⟨gk - 1, by omega⟩
      have hks : k < s.size := by omega
      have e1 : (((k + 1 : Nat)) : Int) - 1 = (k : Int) := by omega
      have hkI : (k : Int) < (s.size : Int) := by omega
      rw [e1]
      have eg := by_get s k hks
      by_cases he : s[k] = 46
      · have hb := u46.2 he
        have HP : Hid (LastDot (By s) k) := ⟨by rw [eg, he], fun j hj => HN.out j hj⟩
        clear he eg HN e1
        go_wp2
        go_ret
        exact ⟨rfl, .inr ⟨k, rfl, HP.out⟩⟩
      · have hb := u46'.2 he
        have HN' : Hid (∀ j : Nat, k ≤ j → (By s)[j]? ≠ some 46) := fun j hj => by
          by_cases e : j = k
          · subst e; rw [eg]; intro h; injection h with h; exact he h
          · exact HN.out j (by omega)
        clear he eg HN e1
        go_wp2
        go_roundg k
        case measure => omega
        case rel => exact ⟨k, rfl, by go_num, by omega, rfl, HN'.out⟩
theorem parentEnd_any (s : ByteArray) (w : World) (hs : s.size ≤ 1048576) : Calls Try.prog 54 #[.string s] w (DotPost s w) := by
  have key : Calls Try.prog 60 #[.string s, .int .u8 46] w (DotPost s w) := by
    go_enter Try.func60, Try.ntmps60
    go_wp2_with (go_at_call 72; refine (lastDot72_any _ _ hs).mono ?_; rintro e w2 ⟨rfl, ⟨rfl, h⟩ | ⟨i, rfl, h⟩⟩)
    · go_ret
      exact ⟨rfl, .inl ⟨rfl, h⟩⟩
    · go_ret
      exact ⟨rfl, .inr ⟨i, rfl, h⟩⟩
  go_enter Try.func54, Try.ntmps54
  go_wp2_with (go_at_call 60; refine key.mono ?_; rintro e w2 ⟨rfl, ⟨rfl, h⟩ | ⟨i, rfl, h⟩⟩)
  · go_ret
    exact ⟨rfl, .inl ⟨rfl, h⟩⟩
  · go_ret
    exact ⟨rfl, .inr ⟨i, rfl, h⟩⟩
end Go.Proofs.Qxb6612537a.U
