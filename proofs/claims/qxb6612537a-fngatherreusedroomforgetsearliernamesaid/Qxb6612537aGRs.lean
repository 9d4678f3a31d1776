import Derived.Test.Qxb6612537aGSt
import Derived.Test.Qxb6612537aGmP
import Derived.Maps.RangeWalk
import Derived.Maps.Ext
/-! THE RANGE OVER THE MAP: what is carried. -/
namespace Go.Proofs.Qxb6612537a.U
open Go.RowKit Go.Proofs.Qxb6612537a.Plain
set_option linter.unusedVariables false

/-- The entries that have come. -/
structure Ag (D : DataW Unit) (left : Lit → Bool) (Hs : AL) : Prop where
  nd : (keys Hs).Nodup
  wf : ∀ p, p ∈ Hs → (Lit.int .i64 p.1).wf = true
  mem : ∀ tx, (Lit.int .i64 tx).wf = true → (tx ∈ keys Hs ↔ Go.Maps.has D (.int .i64 tx) = true ∧ left (.int .i64 tx) = false)
  at_ : ∀ p, p ∈ Hs → ∀ zd, D.atKey (.int .i64 p.1) zd = .lit (.int .i64 p.2)
theorem Ag.start (D : DataW Unit) : Ag D (Go.Maps.has D) [] :=
  ⟨by simp [keys], by simp, fun tx _ => ⟨fun h => by simp [keys] at h, fun ⟨h1, h2⟩ => by rw [h1] at h2; cases h2⟩, by simp⟩
theorem Ag.step {D : DataW Unit} {left : Lit → Bool} {Hs : AL} (h : Ag D left Hs) {x c : Int} (hx : (Lit.int .i64 x).wf = true) (hl : left (.int .i64 x) = true) (hat : ∀ zd, D.atKey (.int .i64 x) zd = .lit (.int .i64 c)) :
    Ag D (fun z => left z && !z.sameKey (.int .i64 x)) (Hs ++ [(x, c)]) := by
  have hkey : WideAt.IsKeyLit (Lit.int .i64 x) := by trivial
  have hnx : x ∉ keys Hs := fun hm => by
    have := ((h.mem x hx).1 hm).2
    rw [hl] at this; cases this
  refine ⟨?_, fun p hp => ?_, fun tx ht => ?_, fun p hp => ?_⟩
  · show (List.map _ (Hs ++ _)).Nodup
    rw [List.map_append, List.nodup_append]
    refine ⟨h.nd, by simp, fun a ha b hb e => ?_⟩
    simp only [List.map_cons, List.map_nil, List.mem_singleton] at hb
    subst e; subst hb
    exact hnx ha
  · rw [List.mem_append, List.mem_singleton] at hp
    rcases hp with hp | rfl
    · exact h.wf p hp
    · exact hx
  · have e1 : tx ∈ keys (Hs ++ [(x, c)]) ↔ tx ∈ keys Hs ∨ tx = x := by simp [keys]
    rw [e1]
    by_cases e : tx = x
    · subst e
      rw [WideAt.sameKey_self hkey]
      simp [Go.Maps.has_true_of_atKey hat]
    · have hne : (Lit.int .i64 tx) ≠ .int .i64 x := fun h => e (by injection h)
      rw [Go.Maps.sameKey_ne hne, h.mem tx ht]
      simp [e]
  · rw [List.mem_append, List.mem_singleton] at hp
    rcases hp with hp | rfl
    · exact h.at_ p hp
    · exact hat
theorem mem_look {Hs : AL} {tx r : Int} (h : look Hs tx = some r) : (tx, r) ∈ Hs := by
  induction Hs with
  | nil => cases h
  | cons p L ih =>
    unfold look at h
    by_cases e : p.1 = tx
    · rw [if_pos e] at h
      injection h with h
      have : p = (tx, r) := Prod.ext e h
      rw [this]; simp
    · rw [if_neg e] at h
      exact List.mem_cons_of_mem _ (ih h)
/-- When nothing is left, the entries are the map. -/
theorem Ag.finish {D : DataW Unit} {left : Lit → Bool} {Hs : AL} {m : Int → Option Int} {R : Nat → HRec} {S : Nat → Prop} (h : Ag D left Hs) (hl : ∀ kl, left kl = false) (hm : IsMax R S m) (hS : ∀ i, S i → (Lit.int .i64 (R i).tx).wf = true)
    (hD : ∀ tx, (Lit.int .i64 tx).wf = true → Go.Maps.has D (.int .i64 tx) = (m tx).isSome ∧ ∀ r, m tx = some r → D.atKey (.int .i64 tx) (.lit (.int .i64 0)) = .lit (.int .i64 r)) : IsMax R S (look Hs) := by
  have e : look Hs = m := by
    funext tx
    by_cases ht : (Lit.int .i64 tx).wf = true
    · obtain ⟨d1, d2⟩ := hD tx ht
      have hk := h.mem tx ht
      rw [hl] at hk
      cases hm1 : m tx with
      | none =>
        rw [hm1] at d1
        refine look_none.2 fun hh => ?_
        rw [d1] at hk
        have := (hk.1 hh).1
        cases this
      | some r =>
        rw [hm1] at d1
        have hin : tx ∈ keys Hs := hk.2 ⟨d1, rfl⟩
        obtain ⟨r', hr'⟩ := mem_keys.1 hin
        have h1 := h.at_ _ (mem_look hr') (.lit (.int .i64 0))
        have h2 := d2 r hm1
        dsimp only at h1
        rw [h1] at h2
        rw [hr']
        simpa using h2
    · have h1 : tx ∉ keys Hs := fun hh => by
        obtain ⟨r', hr'⟩ := mem_keys.1 hh
        exact ht (h.wf _ (mem_look hr'))
      rw [look_none.2 h1]
      cases hm1 : m tx with
      | none => rfl
      | some r =>
        obtain ⟨i, hi, e, _⟩ := hm.ex tx r hm1
        rw [← e] at ht
        exact absurd (hS i hi) ht
  rw [e]; exact hm
def hcell (p : Int × Int) : List Value := [.int .i64 p.1, .int .i64 p.2]
def hflat (Hs : AL) : List Value := Hs.flatMap hcell
theorem hflat_push (Hs : AL) (p : Int × Int) : hflat (Hs ++ [p]) = hflat Hs ++ [.int .i64 p.1, .int .i64 p.2] := by unfold hflat; rw [List.flatMap_append]; simp [hcell]
theorem info85 : (Try.prog.info? 85).map (fun i => (i.zero, i.size, i.bytes)) = some (some (.agg #[.int .i64 0, .int .i64 0]), 2, 16) := by kernel_rfl
/-- The room's state while the holders are laid. -/
structure RSt (w0 : World) (base WB XB MB it n : Nat) (D : DataW Unit) (H0 V Bk : Value) (Hs : AL) (H : Value) (left : Lit → Bool) (cnt : Nat) (wr : World) : Prop where
  st : Row wr WB 60 4 (four (.map (some MB)) H V Bk)
  bx : Row wr XB 32 1 (fun _ => .pointer (some ⟨WB, 0, none⟩))
  rg : wr.ranges Try.prog 2 (plainElem (H := Unit) Try.prog 3) MB it n D left cnt
  own : wr.ownsRow base 85 2 H Hs.length (hflat Hs)
  kp : Keeps (fun b => b = WB ∨ H0.ownBlock = some b) w0 wr
  ok : ∀ b, H.ownBlock = some b → H0.ownBlock = some b ∨ w0.heap.size ≤ b
  hb : base ≤ wr.heap.size
  it0 : w0.heap.size ≤ it
  ag : Ag D left Hs
  len : Hs.length + cnt ≤ n
theorem ranges_ne_row {w : World} {b it n k : Nat} {D : DataW Unit} {left : Lit → Bool} {cnt : Nat} {b' : Nat} {t : TypeId} {f : Nat → Value} (h : w.ranges Try.prog 2 (plainElem (H := Unit) Try.prog 3) b it n D left cnt) (hr : Row w b' t k f) : b' ≠ b ∧ b' ≠ it := by
  obtain ⟨es, clock, since, seen, c0, hb, _, _, _, hi, _⟩ := h
  obtain ⟨c, hc, _⟩ := hr
  constructor
  · rintro rfl; rw [hb] at hc; cases hc
  · rintro rfl; rw [hi] at hc; cases hc
theorem ranges_ne_own {w : World} {b it n base : Nat} {D : DataW Unit} {left : Lit → Bool} {cnt : Nat} {e : TypeId} {size k : Nat} {v : Value} {xs : List Value} (h : w.ranges Try.prog 2 (plainElem (H := Unit) Try.prog 3) b it n D left cnt) (ho : w.ownsRow base e size v k xs) : some b ≠ v.ownBlock ∧ some it ≠ v.ownBlock := by
  obtain ⟨es, clock, since, seen, c0, hb, _, _, _, hi, _⟩ := h
  obtain ⟨_, h | ⟨g, cap, cur, hv, _, hg, _⟩⟩ := ho
  · rw [h.1]; exact ⟨by simp [Value.ownBlock], by simp [Value.ownBlock]⟩
  · rw [hv]
    constructor
    · intro e
      have : b = g := by simpa [Value.ownBlock] using e
      subst this; rw [hb] at hg; cases hg
    · intro e
      have : it = g := by simpa [Value.ownBlock] using e
      subst this; rw [hi] at hg; cases hg
theorem ranges_keeps {S : Nat → Prop} {w w' : World} {b it n : Nat} {D : DataW Unit} {left : Lit → Bool} {cnt : Nat} (h : w.ranges Try.prog 2 (plainElem (H := Unit) Try.prog 3) b it n D left cnt) (k : Keeps S w w') (h1 : ¬ S b) (h2 : ¬ S it) : w'.ranges Try.prog 2 (plainElem (H := Unit) Try.prog 3) b it n D left cnt := by
  have hl1 := h.owns.lt
  have hl2 := h.lt
  obtain ⟨es, clock, since, seen, c0, hb, F, hs, hD, hr, rest⟩ := h
  exact ⟨es, clock, since, seen, c0, (k.block b hl1 h1).trans hb, F, hs, hD, (k.block it hl2 h2).trans hr, rest⟩
theorem keeps_grown (w w' : World) (row : Option Nat) (h : w.grownBy w' row) : Keeps (fun b => row = some b) w w' := (Keeps.refl _ w).grown h fun k e => .inl e
/-- An entry comes. -/
theorem RSt.next {w0 : World} {base WB XB MB it n : Nat} {D : DataW Unit} {H0 V Bk : Value} {Hs : AL} {H : Value} {left left' : Lit → Bool} {cnt cnt' : Nat} {wr w1 : World} (h : RSt w0 base WB XB MB it n D H0 V Bk Hs H left cnt wr)
    (hg : wr.grownBy w1 (some it)) : Row w1 WB 60 4 (four (.map (some MB)) H V Bk) ∧ Row w1 XB 32 1 (fun _ => .pointer (some ⟨WB, 0, none⟩)) ∧ w1.ownsRow base 85 2 H Hs.length (hflat Hs) ∧ Keeps (fun b => b = WB ∨ H0.ownBlock = some b) w0 w1 := by
  have k := keeps_grown _ _ _ hg
  refine ⟨h.st.keeps k ?_, h.bx.keeps k ?_, own_keeps h.own k ?_, h.kp.grown hg fun b e => ?_⟩
  · intro e; exact (ranges_ne_row h.rg h.st).2 (by injection e with e; exact e.symm)
  · intro e; exact (ranges_ne_row h.rg h.bx).2 (by injection e with e; exact e.symm)
  · intro b hb e; exact (ranges_ne_own h.rg h.own).2 (by rw [hb]; exact e)
  · injection e with e
    right; rw [← e]; exact h.it0
/-- And is laid. -/
theorem RSt.push {w0 : World} {base WB XB MB it n : Nat} {D : DataW Unit} {H0 V Bk : Value} {Hs : AL} {H : Value} {left : Lit → Bool} {cnt cnt' : Nat} {wr w1 W w2 : World} {x c : Int} {gg cap : Nat} (h : RSt w0 base WB XB MB it n D H0 V Bk Hs H left cnt wr)
    (hg : wr.grownBy w1 (some it)) (hwx : (Lit.int .i64 x).wf = true) (hl : left (.int .i64 x) = true) (hat : ∀ zd, D.atKey (.int .i64 x) zd = .lit (.int .i64 c)) (hrg : w1.ranges Try.prog 2 (plainElem (H := Unit) Try.prog 3) MB it n D (fun z => left z && !z.sameKey (.int .i64 x)) cnt') (hlt : cnt' < cnt)
    (k : Keeps (fun _ => False) w1 W) (hs1 : W.heap.size = wr.heap.size + 1) (ho : w2.ownsRow base 85 2 (.slice (some ⟨gg, 0, none⟩) (Hs.length + 1) cap) (Hs.length + 1) (hflat Hs ++ [.int .i64 x, .int .i64 c])) (hg2 : W.grownBy w2 H.ownBlock) (hat2 : H.ownBlock = some gg ∨ gg = wr.heap.size + 1) :
    RSt w0 base WB XB MB it n D H0 V Bk (Hs ++ [(x, c)]) (.slice (some ⟨gg, 0, none⟩) (Hs.length + 1) cap) (fun z => left z && !z.sameKey (.int .i64 x)) cnt' (w2.setCell ⟨WB, 1, none⟩ (.slice (some ⟨gg, 0, none⟩) (Hs.length + 1) cap)) := by
  obtain ⟨a1, a2, a3, a4⟩ := h.next (left' := left) (cnt' := cnt) hg
  have hneW : H.ownBlock ≠ some WB := own_ne a3 a1 (by decide)
  have hneX : H.ownBlock ≠ some XB := own_ne a3 a2 (by decide)
  have hWX : XB ≠ WB := a2.ne a1 (by decide)
  have s1 : Row w2 WB 60 4 (four (.map (some MB)) H V Bk) := (a1.keeps k (fun h => h)).grown hg2 hneW
  have b1 : Row w2 XB 32 1 (fun _ => .pointer (some ⟨WB, 0, none⟩)) := (a2.keeps k (fun h => h)).grown hg2 hneX
  have hrW := ranges_keeps hrg k (fun h => h) (fun h => h)
  have howW := own_keeps a3 k (fun _ _ h => h)
  obtain ⟨n1, n2⟩ := ranges_ne_own hrW howW
  have hr2 := hrW.kept hg2 n1 n2
  have k1 : Keeps (fun b => b = WB ∨ H0.ownBlock = some b) w0 w2 := (a4.trans (k.more (fun _ h => h.elim))).grown hg2 (fun b e => by
    rcases h.ok b e with h1 | h1
    · exact .inl (.inr h1)
    · exact .inr h1)
  have hkS : Keeps (fun b => b = WB) w2 (w2.setCell ⟨WB, 1, none⟩ (.slice (some ⟨gg, 0, none⟩) (Hs.length + 1) cap)) := (Keeps.refl (fun b => b = WB) w2).setCell (a := ⟨WB, 1, none⟩) (.inl rfl) _
  obtain ⟨m1, m2⟩ := ranges_ne_row hr2 s1
  refine ⟨?_, b1.setOther (a := ⟨WB, 1, none⟩) hWX _, ranges_keeps hr2 hkS (fun e => m1 e.symm) (fun e => m2 e.symm), ?_, k1.setCell (a := ⟨WB, 1, none⟩) (.inl (.inl rfl)) _, ?_, ?_, h.it0, h.ag.step hwx hl hat, ?_⟩
  · refine (s1.set 1 _).congr (fun q hq => ?_)
    by_cases e : q = 1
    · subst e; simp [four]
    · have : q = 0 ∨ q = 2 ∨ q = 3 := by omega
      rcases this with rfl | rfl | rfl <;> simp [four]
  · rw [hflat_push, List.length_append]
    exact ownsRow_setCell_other ho (a := ⟨WB, 1, none⟩) (own_ne ho s1 (by decide)) _
  · intro b e
    have e2 : gg = b := by simpa [Value.ownBlock] using e
    subst e2
    rcases hat2 with h1 | h1
    · exact h.ok _ h1
    · right; have := h.kp.size; omega
  · have h1 := h.hb
    have h2 := hg2.size
    simp [World.setCell]; omega
  · have := h.len
    simp only [List.length_append, List.length_cons, List.length_nil]; omega
end Go.Proofs.Qxb6612537a.U
