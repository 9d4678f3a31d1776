import Derived.Test.Qxb6612537aMem
import Derived.Test.Qxb6612537aPlain
import Derived.Deep.CutBlock
import Derived.LoopN
namespace Go.Proofs.Qxb6612537a.U
open Go.RowKit Go.Proofs.Qxb6612537a.Plain Go.Lib
set_option linter.unusedVariables false
set_option linter.unusedSimpArgs false

theorem hid {p : Prop} (h : p) : Hid p := h
theorem cmp_head {x y : Nm} : ∀ {i : Nat}, (∀ k, k < i → x[k]? = y[k]?) → i ≤ x.length → i ≤ y.length → compareBytes x y = compareBytes (x.drop i) (y.drop i) := by
  induction x generalizing y with
  | nil =>
    intro i _ hx _
    have : i = 0 := by simpa using hx
    subst this; rfl
  | cons a a1 ih =>
    intro i h hx hy
    cases i with
    | zero => rfl
    | succ i =>
      cases y with
      | nil => simp at hy
      | cons b bs =>
        have e0 : a = b := by have := h 0 (by omega); simpa using this
        subst e0
        have e : compareBytes (a :: a1) (a :: bs) = compareBytes a1 bs := by
          show (if a < a then (-1 : Int) else if a < a then 1 else compareBytes a1 bs) = _
          rw [if_neg (UInt8.lt_irrefl a), if_neg (UInt8.lt_irrefl a)]
        rw [e, List.drop_succ_cons, List.drop_succ_cons]
        exact ih (fun k hk => by have := h (k + 1) (by omega); simpa using this) (by simpa using hx) (by simpa using hy)

theorem drewN_two (w : World) (m n : Nat) : (w.drewN m).drewN n = w.drewN (m + n) := by
  simp [World.drewN, Nat.add_assoc]
theorem drop_get {x : Nm} {i : Nat} {v : UInt8} (h : i < x.length) (e : x[i]? = some v) : x.drop i = v :: x.drop (i + 1) := by
  rw [List.drop_eq_getElem_cons h]
  rw [List.getElem?_eq_getElem h] at e
  injection e with e
  rw [e]

set_option maxHeartbeats 1000000 in
theorem strLE_any (a b : ByteArray) (w : World) (ha : a.size ≤ 1048576) (hb : b.size ≤ 1048576) :
    Calls Try.prog 21 #[.string a, .string b] w (fun e w' => e = .returned (.bool (decide (compareBytes a.data.toList b.data.toList ≤ 0))) ∧ ∃ m, w' = w.drewN m) := by
  obtain ⟨mn, hmn⟩ : ∃ mn, mn = min a.size b.size := ⟨_, rfl⟩
  have hmn9 : mn ≤ 1048576 := by omega
  go_enter Try.func21, Try.ntmps21
  go_upto_if 12 with fail
  go_cut [5] from 7 (fun s5 wx => s5 = .int .i64 (mn : Nat) ∧ wx = w)
  case first =>
    by_cases h : b.size < a.size
    · have e : mn = b.size := by omega
      go_wp2
      go_meet
      case rel => exact ⟨by rw [e], rfl⟩
    · have e : mn = a.size := by omega
      go_wp2
      go_meet
      case rel => exact ⟨by rw [e], rfl⟩
  case rest =>
    obtain ⟨rfl, rfl⟩ := hcut
    have Hmn := hid hmn
    clear hmn
    go_wp2_with fail
    go_loopg [6] mn (fun gk s6 wr => ∃ i : Nat, gk = mn - i ∧ i ≤ mn ∧ s6 = .int .i64 (i : Nat) ∧ (∀ k, k < i → a.data.toList[k]? = b.data.toList[k]?) ∧ ∃ m, wr = wc.drewN m)
    case atStart => exact ⟨0, rfl, Nat.zero_le _, rfl, fun k hk => absurd hk (by omega), 0, rfl⟩
    case round =>
      obtain ⟨i, rfl, hi, rfl, heq, mm, rfl⟩ := hrel
      have Heq := hid heq
      clear heq
      by_cases hlt : i < mn
      · have hia : i < a.size := by have := Hmn.out; omega
        have hib : i < b.size := by have := Hmn.out; omega
        have hiaI : ((i : Nat) : Int) < (a.size : Int) := by omega
        have hibI : ((i : Nat) : Int) < (b.size : Int) := by omega
        go_upto_region 7 with fail
        go_quiet (fail)
        have ea : a.data.toList[i]? = some a[i] := by rw [List.getElem?_eq_getElem (by simpa using hia)]; rfl
        have eb : b.data.toList[i]? = some b[i] := by rw [List.getElem?_eq_getElem (by simpa using hib)]; rfl
        by_cases he : a[i] = b[i]
        · have hnb : (((a[i]).toNat : Int) != ((b[i]).toNat : Int)) = false := by rw [he]; simp
          have Hnext : Hid (∀ k, k < i + 1 → a.data.toList[k]? = b.data.toList[k]?) := by
            intro k hk
            by_cases e : k = i
            · subst e; rw [ea, eb, he]
            · exact Heq.out k (by omega)
          clear he ea eb
          go_wp2
          go_roundg (mn - (i + 1))
          case measure => omega
          case rel => exact ⟨i + 1, rfl, by omega, by go_num, Hnext.out, _, rfl⟩
        · have hnb : (((a[i]).toNat : Int) != ((b[i]).toNat : Int)) = true := by
            have : (a[i]).toNat ≠ (b[i]).toNat := fun h => he (UInt8.toNat_inj.1 h)
            simp; omega
          have HR : Hid (decide (compareBytes a.data.toList b.data.toList ≤ 0) = decide ((a[i]).toNat < (b[i]).toNat)) := by
            show decide _ = decide _
            have hd := cmp_head Heq.out (by simpa using Nat.le_of_lt hia) (by simpa using Nat.le_of_lt hib)
            rw [hd, drop_get (by simpa using hia) ea, drop_get (by simpa using hib) eb]
            have ec : compareBytes (a[i] :: a.data.toList.drop (i + 1)) (b[i] :: b.data.toList.drop (i + 1)) = if a[i] < b[i] then (-1 : Int) else if b[i] < a[i] then 1 else compareBytes (a.data.toList.drop (i + 1)) (b.data.toList.drop (i + 1)) := rfl
            rw [ec]
            by_cases h1 : a[i] < b[i]
            · rw [if_pos h1]
              have h2 : (a[i]).toNat < (b[i]).toNat := UInt8.lt_iff_toNat_lt.1 h1
              simp [h2]
            · have h2 : b[i] < a[i] := by
                rcases UInt8.lt_or_lt_of_ne he with h | h
                · exact absurd h h1
                · exact h
              have h3 : ¬ (a[i]).toNat < (b[i]).toNat := fun h => h1 (UInt8.lt_iff_toNat_lt.2 h)
              rw [if_neg h1, if_pos h2]
              simp [h3]
          clear he ea eb
          go_upto_region 8 with fail
          go_quiet (fail)
          go_wp2
          go_ret
          refine ⟨ret_bool (by rw [HR.out]), ?_⟩
          rw [drewN_two, drewN_two]
          exact ⟨_, rfl⟩
      · have HR : Hid (decide (compareBytes a.data.toList b.data.toList ≤ 0) = decide (a.size ≤ b.size)) := by
          have e : i = mn := by omega
          have hm := Hmn.out
          show decide _ = decide _
          have la : a.data.toList.length = a.size := by simp
          have lb : b.data.toList.length = b.size := by simp
          have hd := cmp_head Heq.out (by omega) (by omega)
          rw [hd]
          by_cases h : a.size ≤ b.size
          · have h0 : a.data.toList.drop i = [] := List.drop_eq_nil_of_le (by omega)
            rw [h0, decide_eq_true h]
            cases b.data.toList.drop i with
            | nil => rfl
            | cons x y => rfl
          · have h0 : b.data.toList.drop i = [] := List.drop_eq_nil_of_le (by omega)
            rw [h0, decide_eq_false h]
            cases h1 : a.data.toList.drop i with
            | nil =>
              have := List.drop_eq_nil_iff.1 h1
              omega
            | cons x y => rfl
        go_wp2
        go_ret
        exact ⟨ret_bool (by rw [HR.out]), _, rfl⟩
/-! ### The severities -/
def rankOf (s : ByteArray) : Int := if (s.toList == [65, 67, 67, 69, 83, 83]) = true then 0 else if (s.toList == [82, 69, 65, 68]) = true then 1 else if (s.toList == [87, 82, 73, 84, 69]) = true then 2 else if (s.toList == [69, 88, 67, 76, 85, 83, 73, 86, 69]) = true then 3 else -1
theorem rankOf_bounds (s : ByteArray) : -1 ≤ rankOf s ∧ rankOf s ≤ 3 := by
  unfold rankOf
  split
  · omega
  · split
    · omega
    · split
      · omega
      · split <;> omega
theorem ret_i64 {a b : Int} (h : a = b) : Ending.returned (.int .i64 a) = .returned (.int .i64 b) := by rw [h]
theorem rank_any (s : ByteArray) (w : World) : Calls Try.prog 34 #[.string s] w (fun e w' => e = .returned (.int .i64 (rankOf s)) ∧ w' = w) := by
  go_enter Try.func34, Try.ntmps34
  go_wp2
  all_goals
    go_ret
    exact ⟨ret_i64 (by unfold rankOf; simp only [*]; rfl), rfl⟩
def sevAt (i : Nat) : ByteArray := match i with
  | 0 => ⟨#[65, 67, 67, 69, 83, 83]⟩
  | 1 => ⟨#[82, 69, 65, 68]⟩
  | 2 => ⟨#[87, 82, 73, 84, 69]⟩
  | _ => ⟨#[69, 88, 67, 76, 85, 83, 73, 86, 69]⟩
set_option maxHeartbeats 1000000 in
theorem sevRank_any (s : ByteArray) (w : World) : Calls Try.prog 26 #[.string s] w (fun e w' => e = .returned (.int .i64 (rankOf s)) ∧ Below w.heap.size w w') := by
  go_enter Try.func26, Try.ntmps26
  go_wp2_with fail
  have c0 : (s.toList == [65, 67, 67, 69, 83, 83]) = ([65, 67, 67, 69, 83, 83] == s.toList) := BEq.comm
  have c1 : (s.toList == [82, 69, 65, 68]) = ([82, 69, 65, 68] == s.toList) := BEq.comm
  have c2 : (s.toList == [87, 82, 73, 84, 69]) = ([87, 82, 73, 84, 69] == s.toList) := BEq.comm
  have c3 : (s.toList == [69, 88, 67, 76, 85, 83, 73, 86, 69]) = ([69, 88, 67, 76, 85, 83, 73, 86, 69] == s.toList) := BEq.comm
  have HR : Hid (rankOf s = if ([65, 67, 67, 69, 83, 83] == s.toList) = true then 0 else if ([82, 69, 65, 68] == s.toList) = true then 1 else if ([87, 82, 73, 84, 69] == s.toList) = true then 2 else if ([69, 88, 67, 76, 85, 83, 73, 86, 69] == s.toList) = true then 3 else -1) := by
    show rankOf s = _
    unfold rankOf
    rw [c0, c1, c2, c3]
  have hb : Hid (∀ o, Below w.heap.size w (w.alloc o)) := fun o => (Below.refl _ _).alloc (Nat.le_refl _) _
  clear c0 c1 c2 c3
  refine wp_loop_rounds 5 ?_
  rw [rounds_succ]
  go_wp2
  · go_ret
    exact ⟨ret_i64 (by rw [HR.out]; simp only [*]; rfl), hb.out _⟩
  rw [rounds_succ]
  go_wp2
  · go_ret
    exact ⟨ret_i64 (by rw [HR.out]; simp only [*]; rfl), hb.out _⟩
  rw [rounds_succ]
  go_wp2
  · go_ret
    exact ⟨ret_i64 (by rw [HR.out]; simp only [*]; rfl), hb.out _⟩
  rw [rounds_succ]
  go_wp2
  · go_ret
    exact ⟨ret_i64 (by rw [HR.out]; simp only [*]; rfl), hb.out _⟩
  rw [rounds_succ]
  go_wp2
  go_ret
  exact ⟨ret_i64 (by rw [HR.out]; simp only [*]; rfl), hb.out _⟩
end Go.Proofs.Qxb6612537a.U
