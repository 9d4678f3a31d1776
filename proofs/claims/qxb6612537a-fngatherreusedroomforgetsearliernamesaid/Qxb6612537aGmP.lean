import Derived.Test.Qxb6612537aMax
/-! gatherMatches's plain law: association lists and sorted lists of numbers. -/
namespace Go.Proofs.Qxb6612537a.U
open Go.RowKit Go.Proofs.Qxb6612537a.Plain
set_option linter.unusedVariables false

abbrev AL := List (Int × Int)
def look : AL → Int → Option Int
  | [], _ => none
  | p :: L, tx => if p.1 = tx then some p.2 else look L tx
def keys (L : AL) : List Int := L.map (·.1)
theorem look_none {tx : Int} : ∀ {L : AL}, look L tx = none ↔ tx ∉ keys L
  | [] => by simp [look, keys]
  | p :: L => by
    unfold look
    by_cases e : p.1 = tx
    · rw [if_pos e]
      simp [keys, e]
    · rw [if_neg e, look_none (L := L)]
      simp only [keys, List.map_cons, List.mem_cons, not_or]
      exact ⟨fun h => ⟨fun e' => e e'.symm, h⟩, fun h => h.2⟩
theorem look_append {tx t r : Int} : ∀ {L : AL}, look (L ++ [(tx, r)]) t = match look L t with
    | some v => some v
    | none => if tx = t then some r else none
  | [] => by simp [look]
  | p :: L => by
    show look (p :: (L ++ [(tx, r)])) t = _
    unfold look
    by_cases e : p.1 = t
    · simp only [if_pos e]
    · simp only [if_neg e]
      exact look_append (L := L)
theorem look_new {L : AL} {tx r : Int} (h : tx ∉ keys L) : look (L ++ [(tx, r)]) = upd (look L) tx r := by
  have hn := look_none.2 h
  funext t
  rw [look_append]
  unfold upd
  rw [hn]
  show _ = if t = tx then some r else look L t
  by_cases e : t = tx
  · subst e
    rw [hn, if_pos rfl]
  · rw [if_neg e]
    cases hm : look L t with
    | none => simp only; rw [if_neg (fun h => e h.symm)]
    | some v => rfl
theorem look_at {tx : Int} : ∀ {L : AL} {k : Nat} (hk : k < L.length), L[k].1 = tx → (∀ j (hj : j < k), L[j].1 ≠ tx) → look L tx = some L[k].2
  | p :: L, 0, hk, h, _ => by
    have h' : p.1 = tx := h
    unfold look
    rw [if_pos h']; rfl
  | p :: L, k + 1, hk, h, hj => by
    have h0 : p.1 ≠ tx := hj 0 (by omega)
    unfold look
    rw [if_neg h0]
    exact look_at (L := L) (k := k) (by simpa using hk) h fun j hj' => hj (j + 1) (by omega)
theorem nd_inj {l : List Int} (hd : l.Nodup) {i j : Nat} (hi : i < l.length) (hj : j < l.length) (e : l[i] = l[j]) : i = j := by
  have h := List.pairwise_iff_getElem.1 hd
  rcases Nat.lt_trichotomy i j with c | c | c
  · exact absurd e (h i j hi hj c)
  · exact c
  · exact absurd e.symm (h j i hj hi c)
theorem look_nodup {tx : Int} {L : AL} {k : Nat} (hd : (keys L).Nodup) (hk : k < L.length) (h : L[k].1 = tx) : look L tx = some L[k].2 := by
  refine look_at hk h fun j hj e => ?_
  have h1 : (keys L)[j]'(by simp [keys]; omega) = (keys L)[k]'(by simpa [keys] using hk) := by simp [keys, e, h]
  have := nd_inj hd _ _ h1
  omega
theorem look_set {tx r t : Int} : ∀ {L : AL} {k : Nat} (hk : k < L.length), L[k].1 = tx → (∀ j (hj : j < k), L[j].1 ≠ tx) → look (L.set k (tx, r)) t = if t = tx then some r else look L t
  | p :: L, 0, hk, h, _ => by
    show look ((tx, r) :: L) t = if t = tx then some r else look (p :: L) t
    unfold look
    have h' : p.1 = tx := h
    by_cases e : t = tx
    · subst e; rw [if_pos rfl, if_pos rfl]
    · rw [if_neg (fun h => e h.symm), if_neg e, h', if_neg (fun h => e h.symm)]
  | p :: L, k + 1, hk, h, hj => by
    show look (p :: L.set k (tx, r)) t = if t = tx then some r else look (p :: L) t
    have h0 : p.1 ≠ tx := hj 0 (by omega)
    unfold look
    rw [look_set (L := L) (k := k) (by simpa using hk) h fun j hj' => hj (j + 1) (by omega)]
    by_cases e : p.1 = t
    · rw [if_pos e, if_pos e, if_neg (fun h => h0 (e.trans h))]
    · rw [if_neg e, if_neg e]
theorem look_upd_set {tx r : Int} {L : AL} {k : Nat} (hk : k < L.length) (h : L[k].1 = tx) (hj : ∀ j (hj : j < k), L[j].1 ≠ tx) (hlt : L[k].2 < r) : look (L.set k (tx, r)) = upd (look L) tx r := by
  funext t
  rw [look_set hk h hj]
  unfold upd
  rw [look_at hk h hj]
  simp only [if_pos hlt]
theorem look_upd_same {tx r : Int} {L : AL} {k : Nat} (hk : k < L.length) (h : L[k].1 = tx) (hj : ∀ j (hj : j < k), L[j].1 ≠ tx) (hlt : ¬ L[k].2 < r) : look L = upd (look L) tx r := by
  unfold upd
  rw [look_at hk h hj]
  simp only [if_neg hlt]
theorem keys_set {tx r : Int} {L : AL} {k : Nat} (hk : k < L.length) (h : L[k].1 = tx) : keys (L.set k (tx, r)) = keys L := by
  unfold keys
  rw [List.map_set]
  refine List.ext_getElem (by simp) fun i h1 h2 => ?_
  rw [List.getElem_set]
  by_cases e : k = i
  · subst e
    rw [if_pos rfl, List.getElem_map, h]
  · rw [if_neg e]
/-- The association list after the first i records. -/
structure AOk (R : Nat → HRec) (P : Nm → Prop) (i : Nat) (L : AL) : Prop where
  nd : (keys L).Nodup
  len : L.length ≤ i
  mx : IsMax R (fun k => k < i ∧ P (By (R k).nm)) (look L)
theorem AOk.zero (R : Nat → HRec) (P : Nm → Prop) : AOk R P 0 [] := ⟨by simp [keys], by simp, (IsMax.empty R).congr fun i => ⟨fun h => h.elim, fun h => by omega⟩⟩
theorem AOk.skip {R : Nat → HRec} {P : Nm → Prop} {i : Nat} {L : AL} (h : AOk R P i L) (hn : ¬ P (By (R i).nm)) : AOk R P (i + 1) L :=
  ⟨h.nd, by have := h.len; omega, h.mx.congr fun k => ⟨fun h => ⟨by omega, h.2⟩, fun h => ⟨by
    by_cases e : k = i
    · subst e; exact absurd h.2 hn
    · omega, h.2⟩⟩⟩
theorem AOk.step {R : Nat → HRec} {P : Nm → Prop} {i : Nat} {L L' : AL} (h : AOk R P i L) (hp : P (By (R i).nm)) (hk : (keys L').Nodup) (hl : L'.length ≤ i + 1) (he : look L' = upd (look L) (R i).tx (rankOf (R i).sv)) : AOk R P (i + 1) L' :=
  ⟨hk, hl, by
    rw [he]
    refine (h.mx.step i).congr fun k => ⟨?_, fun hk => ?_⟩
    · rintro (h | rfl)
      · exact ⟨by omega, h.2⟩
      · exact ⟨by omega, hp⟩
    · by_cases e : k = i
      · exact .inr e
      · exact .inl ⟨by omega, hk.2⟩⟩
theorem AOk.new {R : Nat → HRec} {P : Nm → Prop} {i : Nat} {L : AL} (h : AOk R P i L) (hp : P (By (R i).nm)) (hn : ∀ j (hj : j < L.length), L[j].1 ≠ (R i).tx) : AOk R P (i + 1) (L ++ [((R i).tx, rankOf (R i).sv)]) := by
  have hm : (R i).tx ∉ keys L := fun hm => by
    obtain ⟨j, hj, e⟩ := List.getElem_of_mem hm
    simp only [keys, List.length_map] at hj
    refine hn j hj ?_
    simpa [keys] using e
  refine h.step hp ?_ (by have := h.len; simp; omega) (look_new hm)
  show (List.map _ (L ++ _)).Nodup
  rw [List.map_append, List.nodup_append]
  refine ⟨h.nd, by simp, fun a ha b hb e => ?_⟩
  simp only [List.map_cons, List.map_nil, List.mem_singleton] at hb
  subst e; subst hb
  exact hm ha
theorem AOk.up {R : Nat → HRec} {P : Nm → Prop} {i k : Nat} {L : AL} (h : AOk R P i L) (hp : P (By (R i).nm)) (hk : k < L.length) (he : L[k].1 = (R i).tx) (hn : ∀ j (hj : j < k), L[j].1 ≠ (R i).tx) (hlt : L[k].2 < rankOf (R i).sv) : AOk R P (i + 1) (L.set k ((R i).tx, rankOf (R i).sv)) :=
  h.step hp (by rw [keys_set hk he]; exact h.nd) (by have := h.len; simp; omega) (look_upd_set hk he hn hlt)
theorem AOk.same {R : Nat → HRec} {P : Nm → Prop} {i k : Nat} {L : AL} (h : AOk R P i L) (hp : P (By (R i).nm)) (hk : k < L.length) (he : L[k].1 = (R i).tx) (hn : ∀ j (hj : j < k), L[j].1 ≠ (R i).tx) (hlt : ¬ L[k].2 < rankOf (R i).sv) : AOk R P (i + 1) L :=
  h.step hp h.nd (by have := h.len; omega) (look_upd_same hk he hn hlt)
/-- What the holders are. -/
structure HsOk (R : Nat → HRec) (nh : Nat) (P : Nm → Prop) (Hs : AL) : Prop where
  nd : (keys Hs).Nodup
  mx : IsMax R (fun k => k < nh ∧ P (By (R k).nm)) (look Hs)
theorem nodup_sub : ∀ {a b : List Int}, a.Nodup → (∀ x, x ∈ a → x ∈ b) → a.length ≤ b.length
  | [], b, _, _ => by simp
  | x :: a, b, hd, hs => by
    rw [List.nodup_cons] at hd
    have hx := hs x (by simp)
    have h1 := nodup_sub (a := a) (b := b.erase x) hd.2 fun y hy => by
      have hne : y ≠ x := fun e => hd.1 (e ▸ hy)
      exact (List.mem_erase_of_ne hne).2 (hs y (by simp [hy]))
    rw [List.length_erase_of_mem hx] at h1
    have := List.length_pos_of_mem hx
    simp only [List.length_cons]
    omega
theorem mem_keys {L : AL} {tx : Int} : tx ∈ keys L ↔ ∃ r, look L tx = some r := by
  cases h : look L tx with
  | none => simp [look_none.1 h]
  | some r =>
    refine ⟨fun _ => ⟨r, rfl⟩, fun _ => ?_⟩
    refine Classical.byContradiction fun hn => ?_
    rw [look_none.2 hn] at h; cases h
theorem same_look {R : Nat → HRec} {nh : Nat} {P : Nm → Prop} {L Hs : AL} (h : AOk R P nh L) (h' : HsOk R nh P Hs) (tx : Int) : look L tx = look Hs tx := h.mx.uniq h'.mx tx
theorem same_len {R : Nat → HRec} {nh : Nat} {P : Nm → Prop} {L Hs : AL} (h : AOk R P nh L) (h' : HsOk R nh P Hs) : Hs.length = L.length := by
  have e := same_look h h'
  have h1 := nodup_sub (b := keys L) h'.nd fun x hx => by rw [mem_keys] at hx ⊢; rw [e]; exact hx
  have h2 := nodup_sub (b := keys Hs) h.nd fun x hx => by rw [mem_keys] at hx ⊢; rw [← e]; exact hx
  simp only [keys, List.length_map] at h1 h2
  omega
theorem found {R : Nat → HRec} {nh : Nat} {P : Nm → Prop} {L Hs : AL} (h : AOk R P nh L) (h' : HsOk R nh P Hs) {i : Nat} (hi : i < Hs.length) : ∃ k, ∃ hk : k < L.length, L[k].1 = Hs[i].1 ∧ L[k].2 = Hs[i].2 := by
  have e := same_look h h' Hs[i].1
  rw [look_nodup h'.nd hi rfl] at e
  have hm : Hs[i].1 ∈ keys L := mem_keys.2 ⟨_, e⟩
  obtain ⟨k, hk, hke⟩ := List.getElem_of_mem hm
  simp only [keys, List.length_map] at hk
  have hke' : L[k].1 = Hs[i].1 := by simpa [keys] using hke
  refine ⟨k, hk, hke', ?_⟩
  rw [look_nodup h.nd hk hke'] at e
  exact Option.some.inj e
theorem key_inj {L : AL} (hd : (keys L).Nodup) {i j : Nat} (hi : i < L.length) (hj : j < L.length) (e : L[i].1 = L[j].1) : i = j :=
  nd_inj hd (by simpa [keys] using hi) (by simpa [keys] using hj) (by simpa [keys] using e)

/-! ### The sorted list -/
def mid (Q : List Nat) (j y : Nat) : List Nat := Q.take j ++ y :: Q.drop j
theorem mid_len (Q : List Nat) (j y : Nat) : (mid Q j y).length = Q.length + 1 := by simp [mid]; omega
theorem mid_end (Q : List Nat) (y : Nat) : mid Q Q.length y = Q ++ [y] := by simp [mid]
theorem mid_set (Q : List Nat) (j y z : Nat) (hj : j ≤ Q.length) : (mid Q j y).set j z = mid Q j z := by
  unfold mid
  rw [List.set_append_right _ _ (by simp; omega)]
  simp [Nat.min_eq_left hj]
theorem mid_lt (Q : List Nat) (j y t : Nat) (ht : t < j) (hj : j ≤ Q.length) : (mid Q j y)[t]? = some (Q[t]'(by omega)) := by
  unfold mid
  rw [List.getElem?_append_left (by simp; omega), List.getElem?_take_of_lt ht, List.getElem?_eq_getElem]
theorem mid_down (Q : List Nat) (j y : Nat) (hj : j < Q.length) : (mid Q (j + 1) y).set (j + 1) Q[j] = mid Q j Q[j] := by
  rw [mid_set _ _ _ _ (by omega)]
  unfold mid
  rw [List.take_succ_eq_append_getElem hj, List.append_assoc, List.drop_eq_getElem_cons hj]; rfl
theorem mid_mem (Q : List Nat) (j y x : Nat) : x ∈ mid Q j y ↔ x ∈ Q ∨ x = y := by
  unfold mid
  have h := List.take_append_drop j Q
  constructor
  · intro hm
    rw [List.mem_append, List.mem_cons] at hm
    rcases hm with h1 | h1 | h1
    · exact .inl (List.mem_of_mem_take h1)
    · exact .inr h1
    · exact .inl (List.mem_of_mem_drop h1)
  · rintro (h1 | h1)
    · rw [← h, List.mem_append] at h1
      rw [List.mem_append, List.mem_cons]
      rcases h1 with h1 | h1
      · exact .inl h1
      · exact .inr (.inr h1)
    · rw [List.mem_append, List.mem_cons]; exact .inr (.inl h1)
def Srt (od : Nat → Int) (Q : List Nat) : Prop := Q.Pairwise fun a b => od a < od b
theorem mid_srt {od : Nat → Int} {Q : List Nat} {j i : Nat} (h : Srt od Q) (hj : j ≤ Q.length) (h1 : ∀ x, x ∈ Q.drop j → od i < od x) (h2 : 0 < j → od (Q.getD (j - 1) 0) < od i) : Srt od (mid Q j i) := by
  have hQ := h
  unfold Srt at hQ
  rw [← List.take_append_drop j Q, List.pairwise_append] at hQ
  obtain ⟨a1, a2, a3⟩ := hQ
  have hlt : ∀ x, x ∈ Q.take j → od x < od i := fun x hx => by
    obtain ⟨t, ht, e⟩ := List.getElem_of_mem hx
    simp only [List.length_take] at ht
    have h0 : 0 < j := by omega
    have h2' := h2 h0
    rw [List.getD_eq_getElem?_getD, List.getElem?_eq_getElem (by omega), Option.getD_some] at h2'
    rw [List.getElem_take] at e
    subst e
    by_cases e : t = j - 1
    · subst e; exact h2'
    · have := (List.pairwise_iff_getElem.1 h) t (j - 1) (by omega) (by omega) (by omega)
      omega
  unfold Srt mid
  rw [List.pairwise_append, List.pairwise_cons]
  refine ⟨a1, ⟨fun x hx => h1 x hx, a2⟩, fun x hx y hy => ?_⟩
  rw [List.mem_cons] at hy
  rcases hy with rfl | hy
  · exact hlt x hx
  · exact a3 x hx y hy
theorem srt_uniq {od : Nat → Int} : ∀ {a b : List Nat}, Srt od a → Srt od b → (∀ x, x ∈ a ↔ x ∈ b) → a = b
  | [], [], _, _, _ => rfl
  | [], y :: b, _, _, h => absurd ((h y).2 (by simp)) (by simp)
  | x :: a, [], _, _, h => absurd ((h x).1 (by simp)) (by simp)
  | x :: a, y :: b, h1, h2, h => by
    unfold Srt at h1 h2
    rw [List.pairwise_cons] at h1 h2
    have e : x = y := by
      refine Classical.byContradiction fun ne => ?_
      have m1 : x ∈ b := by
        have := (h x).1 (by simp)
        rw [List.mem_cons] at this
        exact this.resolve_left ne
      have m2 : y ∈ a := by
        have := (h y).2 (by simp)
        rw [List.mem_cons] at this
        exact this.resolve_left (fun e => ne e.symm)
      have := h1.1 y m2
      have := h2.1 x m1
      omega
    subst e
    congr 1
    refine srt_uniq h1.2 h2.2 fun z => ⟨fun hz => ?_, fun hz => ?_⟩
    · have := (h z).1 (by simp [hz])
      rw [List.mem_cons] at this
      rcases this with rfl | h'
      · exact absurd (h1.1 z hz) (by omega)
      · exact h'
    · have := (h z).2 (by simp [hz])
      rw [List.mem_cons] at this
      rcases this with rfl | h'
      · exact absurd (h2.1 z hz) (by omega)
      · exact h'
/-- The selected records after the first i. -/
structure QOk (W : Nat → WRec) (P : Nm → Prop) (i : Nat) (Q : List Nat) : Prop where
  srt : Srt (fun k => (W k).od) Q
  mem : ∀ x, x ∈ Q ↔ x < i ∧ P (By (W x).nm)
  len : Q.length ≤ i
theorem QOk.zero (W : Nat → WRec) (P : Nm → Prop) : QOk W P 0 [] := ⟨.nil, by simp, by simp⟩
theorem QOk.skip {W : Nat → WRec} {P : Nm → Prop} {i : Nat} {Q : List Nat} (h : QOk W P i Q) (hn : ¬ P (By (W i).nm)) : QOk W P (i + 1) Q :=
  ⟨h.srt, fun x => by
    rw [h.mem]
    exact ⟨fun h => ⟨by omega, h.2⟩, fun h => ⟨by
      by_cases e : x = i
      · subst e; exact absurd h.2 hn
      · omega, h.2⟩⟩, by have := h.len; omega⟩
theorem QOk.put {W : Nat → WRec} {P : Nm → Prop} {i j nw : Nat} {Q : List Nat} (h : QOk W P i Q) (hp : P (By (W i).nm)) (hi : i < nw) (hod : ∀ a b, a < nw → b < nw → (W a).od = (W b).od → a = b) (hj : j ≤ Q.length) (h1 : ∀ t (ht : t < Q.length), j ≤ t → (W i).od < (W Q[t]).od) (h2 : ∀ h0 : 0 < j, ¬ (W i).od < (W (Q[j - 1]'(by omega))).od) : QOk W P (i + 1) (mid Q j i) := by
  refine ⟨mid_srt h.srt hj ?_ ?_, fun x => ?_, by rw [mid_len]; have := h.len; omega⟩
  · intro x hx
    obtain ⟨t, ht, e⟩ := List.getElem_of_mem hx
    simp only [List.length_drop] at ht
    rw [List.getElem_drop] at e
    have := h1 (j + t) (by omega) (by omega)
    rw [e] at this; exact this
  · intro h0
    have h2' := h2 h0
    rw [List.getD_eq_getElem?_getD, List.getElem?_eq_getElem (by omega), Option.getD_some]
    have hm : Q[j - 1]'(by omega) ∈ Q := List.getElem_mem _
    have hx := (h.mem _).1 hm
    have hne : (W (Q[j - 1]'(by omega))).od ≠ (W i).od := fun e => by
      have := hod _ _ (by omega) hi e
      omega
    show (W (Q[j - 1]'(by omega))).od < (W i).od
    omega
  · rw [mid_mem, h.mem]
    constructor
    · rintro (h | rfl)
      · exact ⟨by omega, h.2⟩
      · exact ⟨by omega, hp⟩
    · rintro ⟨h1, h2⟩
      by_cases e : x = i
      · exact .inr e
      · exact .inl ⟨by omega, h2⟩
end Go.Proofs.Qxb6612537a.U
