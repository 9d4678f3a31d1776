import Derived.Test.Qxb6612537aLeaf
namespace Go.Proofs.Qxb6612537a.U
open Go.RowKit Go.Proofs.Qxb6612537a.Plain Go.Lib
set_option linter.unusedVariables false
set_option linter.unusedSimpArgs false

/-- A string's bytes. -/
def By (s : ByteArray) : Nm := s.data.toList
theorem by_toList (s : ByteArray) : s.toList = By s := ByteArray.toList_eq s
theorem by_len (s : ByteArray) : (By s).length = s.size := by simp [By]
theorem by_inj {a b : ByteArray} (h : By a = By b) : a = b := Go.WideShapes.bytes_inj h
theorem by_get (s : ByteArray) (i : Nat) (h : i < s.size) : (By s)[i]? = some s[i] := by
  rw [List.getElem?_eq_getElem (by rw [by_len]; exact h)]; rfl
theorem by_head (s : ByteArray) (i : Nat) : By (s.extract 0 i) = (By s).take i := by
  unfold By
  rw [ByteArray.data_extract, Array.toList_extract, List.extract_eq_take_drop, List.drop_zero]; rfl

/-- x is beneath y. -/
def Ben (x y : Nm) : Prop := (y ++ [46]) <+: x
theorem ben_iff (x y : Nm) : Ben x y ↔ y.length < x.length ∧ x.take y.length = y ∧ x[y.length]? = some 46 := by
  constructor
  · rintro ⟨t, ht⟩
    subst ht
    refine ⟨by simp, by simp, ?_⟩
    rw [List.append_assoc, List.getElem?_append_right (Nat.le_refl _), Nat.sub_self]; rfl
  · rintro ⟨h1, h2, h3⟩
    refine ⟨x.drop (y.length + 1), ?_⟩
    have e := List.take_append_drop y.length x
    rw [drop_get h1 h3, h2] at e
    rw [List.append_assoc]; exact e
def benDec (x y : Nm) : Decidable (Ben x y) := decidable_of_iff _ (ben_iff x y).symm
def Rel (x y : Nm) : Prop := x = y ∨ Ben x y ∨ Ben y x
def relB (x y : Nm) : Bool := @decide (x = y) inferInstance || (@decide (Ben x y) (benDec x y) || @decide (Ben y x) (benDec y x))
theorem relB_true {x y : Nm} (h : Rel x y) : relB x y = true := by
  unfold relB
  rcases h with h | h | h
  · rw [decide_eq_true h]; rfl
  · rw [@decide_eq_true _ (benDec x y) h]; simp
  · rw [@decide_eq_true _ (benDec y x) h]; simp
theorem relB_false {x y : Nm} (h : ¬ Rel x y) : relB x y = false := by
  unfold relB
  rw [decide_eq_false (fun e => h (.inl e)), @decide_eq_false _ (benDec x y) (fun e => h (.inr (.inl e))), @decide_eq_false _ (benDec y x) (fun e => h (.inr (.inr e)))]; rfl

theorem u46 {x : UInt8} : ((x.toNat : Int) == 46) = true ↔ x = 46 := by
  constructor
  · intro h
    have h1 : x.toNat = 46 := by have := eq_of_beq h; omega
    exact UInt8.toNat_inj.1 h1
  · intro h; rw [h]; rfl
theorem ben_of {a b : ByteArray} (h1 : b.size < a.size) (h2 : (a.extract 0 b.size).toList = b.toList) (h3 : ((a[b.size].toNat : Int) == 46) = true) : Ben (By a) (By b) := by
  rw [by_toList, by_toList, by_head] at h2
  rw [ben_iff, by_len, by_len]
  exact ⟨h1, h2, by rw [by_get a _ h1, u46.1 h3]⟩
theorem not_ben1 {a b : ByteArray} (h1 : ¬ b.size < a.size) : ¬ Ben (By a) (By b) := by
  rw [ben_iff, by_len, by_len]
  exact fun h => h1 h.1
theorem not_ben2 {a b : ByteArray} (h2 : ¬ (a.extract 0 b.size).toList = b.toList) : ¬ Ben (By a) (By b) := by
  rw [by_toList, by_toList, by_head] at h2
  rw [ben_iff, by_len, by_len]
  exact fun h => h2 h.2.1
theorem not_ben3 {a b : ByteArray} (h1 : b.size < a.size) (h3 : ((a[b.size].toNat : Int) == 46) = false) : ¬ Ben (By a) (By b) := by
  rw [ben_iff, by_len, by_len]
  rintro ⟨_, _, h⟩
  rw [by_get a _ h1] at h
  injection h with h
  have := u46.2 h
  rw [h3] at this; cases this

set_option maxHeartbeats 1000000 in
theorem related_any (a b : ByteArray) (w : World) (ha : a.size ≤ 1048576) (hb : b.size ≤ 1048576) :
    Calls Try.prog 25 #[.string a, .string b] w (fun e w' => e = .returned (.bool (relB (By a) (By b))) ∧ w' = w) := by
  have hne : (a.toList == b.toList) = false → ¬ By a = By b := fun h e => by
    rw [by_toList, by_toList, e] at h
    simp at h
  have heq : (a.toList == b.toList) = true → By a = By b := fun h => by
    rw [by_toList, by_toList] at h
    exact eq_of_beq h
  have Hne := hid hne
  have Heq := hid heq
  clear hne heq
  go_enter Try.func25, Try.ntmps25
  go_wp2
  all_goals
    go_ret
    refine ⟨ret_bool ?_, rfl⟩
  · rename_i h1
    exact (relB_true (.inl (Heq.out h1))).symm
  · rename_i h0 h1 h2 h3
    exact (relB_true (.inr (.inl (ben_of h1 h2 h3)))).symm
  · rename_i h0 h1 h2 h3 h4
    refine (relB_false ?_).symm
    rintro (h | h | h)
    · exact Hne.out h0 h
    · exact not_ben3 h1 h3 h
    · exact not_ben1 h4 h
  · rename_i h0 h1 h2 h3
    refine (relB_false ?_).symm
    rintro (h | h | h)
    · exact Hne.out h0 h
    · exact not_ben2 h2 h
    · exact not_ben1 h3 h
  · rename_i h0 h1 h2 h3 h4
    exact (relB_true (.inr (.inr (ben_of h2 h3 h4)))).symm
  · rename_i h0 h1 h2 h3 h4
    refine (relB_false ?_).symm
    rintro (h | h | h)
    · exact Hne.out h0 h
    · exact not_ben1 h1 h
    · exact not_ben3 h2 h4 h
  · rename_i h0 h1 h2 h3
    refine (relB_false ?_).symm
    rintro (h | h | h)
    · exact Hne.out h0 h
    · exact not_ben1 h1 h
    · exact not_ben2 h3 h
  · rename_i h0 h1 h2
    refine (relB_false ?_).symm
    rintro (h | h | h)
    · exact Hne.out h0 h
    · exact not_ben1 h1 h
    · exact not_ben1 h2 h
end Go.Proofs.Qxb6612537a.U
