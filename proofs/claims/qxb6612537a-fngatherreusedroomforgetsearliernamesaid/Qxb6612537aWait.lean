import Derived.Test.Qxb6612537aOn
import Derived.Deep.RegionLaw
namespace Go.Proofs.Qxb6612537a.U
open Go.RowKit Go.Proofs.Qxb6612537a.Plain
set_option linter.unusedVariables false
set_option linter.unusedSimpArgs false

theorem info77 : (Try.prog.info? 77).map (fun i => (i.zero, i.size, i.bytes)) = some (some (.pointer none), 1, 8) := by kernel_rfl
/-- Pointers to the n records of five cells that lie from ⟨b, off⟩ on. -/
def ptrs (b off n : Nat) : List Value := (List.range n).map fun i => .pointer (some ⟨b, off + i * 5, none⟩)
theorem ptrs_succ (b off n : Nat) : ptrs b off (n + 1) = ptrs b off n ++ [.pointer (some ⟨b, off + n * 5, none⟩)] := by
  unfold ptrs; rw [List.range_succ, List.map_append]; rfl
/-- The room's state while around grows. -/
structure ASt (w0 : World) (base WB XB : Nat) (M H Bk V0 V : Value) (cnt : Nat) (xs : List Value) (wr : World) : Prop where
  st : Row wr WB 60 4 (four M H V Bk)
  bx : Row wr XB 32 1 (fun _ => .pointer (some ⟨WB, 0, none⟩))
  own : wr.ownsRow base 77 1 V cnt xs
  kp : Keeps (fun b => b = WB ∨ V0.ownBlock = some b) w0 wr
  ok : ∀ b, V.ownBlock = some b → V0.ownBlock = some b ∨ w0.heap.size ≤ b
  hb : base ≤ wr.heap.size
theorem ASt.push {w0 : World} {base WB XB : Nat} {M H Bk V0 V : Value} {cnt : Nat} {xs : List Value} {wr W w1 : World} {p : Value} {gg cap : Nat} (h : ASt w0 base WB XB M H Bk V0 V cnt xs wr)
    (k : Keeps (fun _ => False) wr W) (ho : w1.ownsRow base 77 1 (.slice (some ⟨gg, 0, none⟩) (cnt + 1) cap) (cnt + 1) (xs ++ [p])) (hg : W.grownBy w1 V.ownBlock) (hat : V.ownBlock = some gg ∨ gg = wr.heap.size + 1) :
    ASt w0 base WB XB M H Bk V0 (.slice (some ⟨gg, 0, none⟩) (cnt + 1) cap) (cnt + 1) (xs ++ [p]) (w1.setCell ⟨WB, 2, none⟩ (.slice (some ⟨gg, 0, none⟩) (cnt + 1) cap)) := by
  have hneW : V.ownBlock ≠ some WB := own_ne h.own h.st (by decide)
  have hneX : V.ownBlock ≠ some XB := own_ne h.own h.bx (by decide)
  have hWX : XB ≠ WB := h.bx.ne h.st (by decide)
  have s1 : Row w1 WB 60 4 (four M H V Bk) := (h.st.keeps k (fun h => h)).grown hg hneW
  have b1 : Row w1 XB 32 1 (fun _ => .pointer (some ⟨WB, 0, none⟩)) := (h.bx.keeps k (fun h => h)).grown hg hneX
  have k1 : Keeps (fun b => b = WB ∨ V0.ownBlock = some b) w0 w1 := (h.kp.trans (k.more (fun _ h => h.elim))).grown hg (fun b e => by
    rcases h.ok b e with h1 | h1
    · exact .inl (.inr h1)
    · exact .inr h1)
  refine ⟨?_, b1.setOther (a := ⟨WB, 2, none⟩) hWX _, ownsRow_setCell_other ho (a := ⟨WB, 2, none⟩) (own_ne ho s1 (by decide)) _, k1.setCell (a := ⟨WB, 2, none⟩) (.inl (.inl rfl)) _, ?_, ?_⟩
  · refine (s1.set 2 _).congr (fun q hq => ?_)
    by_cases e : q = 2
    · subst e; simp [four]
    · have : q = 0 ∨ q = 1 ∨ q = 3 := by omega
      rcases this with rfl | rfl | rfl <;> simp [four]
  · intro b e
    have e2 : gg = b := by simpa [Value.ownBlock] using e
    subst e2
    rcases hat with h1 | h1
    · exact h.ok _ h1
    · right; have := h.kp.size; omega
  · have := h.hb
    have h2 := k.size
    have h3 := hg.size
    simp [World.setCell]; omega
set_option maxHeartbeats 2000000 in
theorem wait35_any (base WB XB b off n c cnt : Nat) (A : Option Addr) (M H Bk V : Value) (xs : List Value) (w : World) (hA : 0 < n → A = some ⟨b, off, none⟩) (hn : n ≤ 4096) (hcnt : cnt ≤ 10000000)
    (h0 : ASt w base WB XB M H Bk V V cnt xs w) :
    Calls Try.prog 35 #[.slice A n c, .pointer (some ⟨XB, 0, none⟩)] w (fun e w' => e = .returned (.tuple #[]) ∧ ∃ V', ASt w base WB XB M H Bk V V' (cnt + n) (xs ++ ptrs b off n) w') := by
  have H0 := hid h0
  clear h0
  obtain ⟨i0, hi0, hz0, hz1, hz2⟩ := info_parts info77
  go_enter Try.func35, Try.ntmps35
  go_wp2_with fail
  go_loopg [6] n (fun gk s6 wr => ∃ i : Nat, gk = n - i ∧ i ≤ n ∧ s6 = .int .i64 (i : Nat) ∧ ∃ V', ASt w base WB XB M H Bk V V' (cnt + i) (xs ++ ptrs b off i) wr)
  case atStart => exact ⟨0, rfl, Nat.zero_le _, rfl, V, by have := H0.out; simpa [ptrs] using this⟩
  case round =>
    obtain ⟨i, rfl, hi, rfl, V1, HS⟩ := hrel
    replace HS := hid HS
    by_cases hlt : i < n
    · obtain rfl := hA (by omega)
      have hltI : ((i : Nat) : Int) < (n : Int) := by omega
      have cf : wr.cell? ⟨XB, 0, none⟩ = some (.pointer (some ⟨WB, 0, none⟩)) := HS.out.bx.cell (i := 0) (by omega)
      have c2 : wr.cell? ⟨WB, 2, none⟩ = some V1 := HS.out.st.cell (i := 2) (by omega)
      have fz := HS.out.st.frozen
      have hWB := HS.out.st.lt
      have hXB := HS.out.bx.lt
      have own := HS.out.own
      have hbb := HS.out.hb
      have hVW : V1.ownBlock ≠ some WB := own_ne own HS.out.st (by decide)
      have hVX : V1.ownBlock ≠ some XB := own_ne own HS.out.bx (by decide)
      have dz : ∀ o, (wr.alloc o).drew.cell? ⟨WB, 2, none⟩ = some V1 := fun o => (World.cell?_alloc_lt _ _ _ hWB).trans c2
      have gz : ∀ o, (wr.alloc o).drew.frozen? ⟨WB, 2, none⟩ = false := fun o => (HS.out.st.alloc o).frozen 2
      have ez : ∀ o, (wr.alloc o).drew.cell? ⟨XB, 0, none⟩ = some (.pointer (some ⟨WB, 0, none⟩)) := fun o => (World.cell?_alloc_lt _ _ _ hXB).trans cf
      go_wp2_with fail
      go_region_law ((refine step_append_lies _ (by rfl) _ _ _ (by rfl) base 77 i0 _ 1 8 Try.underlying57 hi0 hz0 hz1 hz2 rfl (by omega) V1 (cnt + i) (xs ++ ptrs b off i) (by rfl) ((own.alloc _).drew) ⟨wr.heap.size, 0, none⟩ 1 1 [.pointer (some ⟨b, off + i * 5, none⟩)] (by rfl) (by rfl) (World.news_of_block (cs := #[.pointer (some ⟨b, off + i * 5, none⟩)]) (t := 77) (fr := (0, 0)) (heap_alloc_new wr _)) (by simp [Value.oneCell']) (by omega) (by simp [maxLen]; omega) (by omega) (by simp; omega) (wr.heap.size + 1) (by simp) ?_; intro gg cap w1 hown1 hgrow hat hlt1; have hc1 := (hgrow.cell_far ⟨WB, 2, none⟩ (by simp; omega) (Ne.symm hVW)).trans (dz _); have hf1 := (hgrow.frozen_far ⟨WB, 2, none⟩ (by simp; omega) (Ne.symm hVW)).trans (gz _); have hd1 := (hgrow.cell_far ⟨XB, 0, none⟩ (by simp; omega) (Ne.symm hVX)).trans (ez _)))
      all_goals
        have LN := HS.out.push (((Keeps.refl _ wr).alloc _).drew) hown1 hgrow hat
        replace LN := hid LN
        clear hown1 hgrow hat hc1 hf1 hd1 dz gz ez
        go_wp2
        go_roundg (n - (i + 1))
        case measure => omega
        case rel => exact ⟨i + 1, rfl, by omega, by go_num, _, by have := LN.out; rw [ptrs_succ, ← List.append_assoc]; exact this⟩
    · have e : i = n := by omega
      subst e
      clear hlt
      go_wp2
      go_end0
      exact ⟨rfl, V1, HS.out⟩
end Go.Proofs.Qxb6612537a.U
