import Derived.Test.Qxb6609507aCheck
import Derived.Test.Qxb6609507aFreeMatch
import Derived.Test.Qxb6609507aGrowForest
import Derived.Test.Qxb6609507aBuild
/-! WHAT THE LAW's CALLS LEAVE. -/
namespace Go.Proofs.Qxb6609507a.U
open Go.RowKit Go.Proofs.Qxb6609507a.Plain
set_option linter.unusedVariables false

theorem Sl.congr {w : World} {v : Value} {ty : TypeId} {n : Nat} {f g : Nat → Value} (h : Sl w v ty n f) (e : ∀ i, i < n → f i = g i) : Sl w v ty n g := by
  obtain ⟨a, c, hv, h2⟩ := h
  refine ⟨a, c, hv, fun h0 => ?_⟩
  obtain ⟨gb, hg, hr⟩ := h2 h0
  exact ⟨gb, hg, hr.congr e⟩
theorem sl_map {w : World} {v : Value} {ty : TypeId} {xs : List Value} {n : Nat} {f : Nat → Value} (h : Sl w v ty xs.length (fun i => xs.getD i undef)) (hx : xs = (List.range n).map f) : Sl w v ty n f := by
  have hl : xs.length = n := by rw [hx, List.length_map, List.length_range]
  rw [hl] at h
  refine h.congr fun i hi => ?_
  rw [hx, List.getD_eq_getElem?_getD, List.getElem?_map, List.getElem?_range hi]; rfl
theorem sl_list {w : World} {v : Value} {ty : TypeId} {xs : List Value} {l : List Nat} {n : Nat} {f : Nat → Value} (h : Sl w v ty xs.length (fun i => xs.getD i undef)) (hx : xs = l.map f) (hn : l.length = n) : Sl w v ty n (fun i => f (l.getD i 0)) := by
  have hl : xs.length = n := by rw [hx, List.length_map, hn]
  rw [hl] at h
  refine h.congr fun i hi => ?_
  have hi2 : i < l.length := by omega
  rw [hx, List.getD_eq_getElem?_getD, List.getElem?_map, List.getElem?_eq_getElem hi2, List.getD_eq_getElem?_getD, List.getElem?_eq_getElem hi2]; rfl

section
variable {fan t : Nat → Nat} {M : Nat}
/-- The layout as zzBuild hands it back. -/
def XS (fan t : Nat → Nat) (M q : Nat) : List Value := xsA fan t M (bs fan t M) (bs fan t M) (bs fan t M) (bs fan t M) M M M M M q
structure LayS (w : World) (fan t : Nat → Nat) (M : Nat) (V : Nat → Value) : Prop where
  s1 : ∀ l, l < 5 → Sl w (V (11 + l)) 21 (bs fan t M l) (fun i => .int .i32 (F fan t M l i : Nat))
  s2 : ∀ l, l < 5 → Sl w (V (16 + l)) 21 (bs fan t M l) (fun i => .int .i32 (Pa fan t M l i))
  s3 : ∀ l, l < 5 → Sl w (V (21 + l)) 21 (bs fan t M l) (fun i => .int .i32 (Ch fan t M l i))
  s4 : ∀ l, l < 5 → Sl w (V (26 + l)) 4 (bs fan t M l) (fun i => .bool (Tp fan t M l i))
  s5 : Sl w (V 31) 21 M (fun i => .int .i32 (bs fan t i (t i) : Nat))
  s6 : Sl w (V 32) 45 (RL t M).length (fun i => .int .i8 ((RL t M).getD i 0 : Nat))
  s7 : Sl w (V 33) 21 (RL t M).length (fun i => .int .i32 ((RF fan t M).getD i 0 : Nat))
  s8 : Sl w (V 34) 21 (RL t M).length (fun i => .int .i32 ((RO fan t M).getD i 0 : Nat))
  s9 : Sl w (V 35) 21 (RL t M).length (fun i => .int .i32 ((RC t M).getD i 0 : Nat))
theorem LayS.of {w : World} {V : Nat → Value} (h : ∀ q, 11 ≤ q → q < 36 → Sl w (V q) (ty q) (XS fan t M q).length (fun i => (XS fan t M q).getD i undef)) : LayS w fan t M V where
  s1 := fun l hl => by
    have h' := h (11 + l) (by omega) (by omega)
    rw [ty21 (by omega)] at h'
    exact sl_map h' (xsA_atF hl)
  s2 := fun l hl => by
    have h' := h (16 + l) (by omega) (by omega)
    rw [ty21 (by omega)] at h'
    exact sl_map h' (xsA_atP hl)
  s3 := fun l hl => by
    have h' := h (21 + l) (by omega) (by omega)
    rw [ty21 (by omega)] at h'
    exact sl_map h' (xsA_atC hl)
  s4 := fun l hl => by
    have h' := h (26 + l) (by omega) (by omega)
    rw [ty4 (by omega) (by omega)] at h'
    exact sl_map h' (xsA_atT hl)
  s5 := sl_map (h 31 (by omega) (by omega)) rfl
  s6 := sl_list (f := fun i : Nat => .int .i8 i) (h 32 (by omega) (by omega)) rfl rfl
  s7 := sl_list (f := fun i : Nat => .int .i32 i) (h 33 (by omega) (by omega)) rfl (RF_len M)
  s8 := sl_list (f := fun i : Nat => .int .i32 i) (h 34 (by omega) (by omega)) rfl (RO_len M)
  s9 := sl_list (f := fun i : Nat => .int .i32 i) (h 35 (by omega) (by omega)) rfl (RC_len M)
theorem LayS.below {w w' : World} {V : Nat → Value} (h : LayS w fan t M V) (b : Below w.heap.size w w') : LayS w' fan t M V :=
  ⟨fun l hl => (h.s1 l hl).below b, fun l hl => (h.s2 l hl).below b, fun l hl => (h.s3 l hl).below b, fun l hl => (h.s4 l hl).below b, h.s5.below b, h.s6.below b, h.s7.below b, h.s8.below b, h.s9.below b⟩

/-- A cell is taken out of level T's free set. -/
theorem SJ_full {M' l i : Nat} (hi : i < bs fan t M l) : SJ fan t M M l i = Tp fan t M l i := by
  unfold SJ
  rw [decide_eq_true hi, Bool.true_and]
def SU (fan t : Nat → Nat) (M T o : Nat) (l i : Nat) : Bool := if l = T then SJ fan t M M l i && !decide (i = o) else SJ fan t M M l i

variable {B : Nat} {w wr w' : World} {x : Blk} {lk : Bool} {D WB cc : Nat → Nat} {XB : Nat → Nat → Nat} {C : Nat → Value} {X : Nat → Nat → Nat → Nat} {V0 V1 : Value}
theorem unfree {T o : Nat} {m : Int} {Y : Nat → Nat → Nat} (hTr : Trees fan t M) (hT : T < 5) (ho : o < bs fan t M T) (hin : SJ fan t M M T o = true) (h5 : fan 5 = 0)
    (hC : PlC fan t M x lk (bs fan t M) D WB cc XB (SJ fan t M M) V0 V1 C) (hM : PlM fan t M B w x lk (bs fan t M) D WB XB (SJ fan t M M) M M M C X V0 V1 wr)
    (hm : m = (cnt (SJ fan t M M T) (bs fan t M T) : Nat) - 1)
    (k : Keeps (fun b => b = x.FF ∨ ∃ k, k < D T ∧ b = XB T k) wr w') (hF : Row w' x.FF 88 40 (updC C (7 + T * 3 + 2) (.int .i64 m))) (hW : Words w' (bs fan t M T) (D T) (WB T) (XB T) Y) (hO : Ok (wlen (bs fan t M T)) (D T) (fun i => SJ fan t M M T i && !decide (i = o)) Y)
    {V : Nat → Value} {MB : Nat} {aT : Option Addr} (hL : LayS w' fan t M V) (hmr : Row w' MB 33 36 (layC fan V)) (hto : Tops w' aT M (fun i => (t i : Int))) :
    FrS w' x.FF (updC C (7 + T * 3 + 2) (.int .i64 m)) (bs fan t M) D WB cc XB (SU fan t M T o) (fun l => if l = T then Y else X l) ∧
    Chk w' fan t M x lk (bs fan t M) (updC C (7 + T * 3 + 2) (.int .i64 m)) V V0 V1 MB aT := by
  have hfr := hM.base.fr T hT
  have hz : ∀ b ty n f, Row wr b ty n f → ty ≠ 88 → ty ≠ 55 → ¬ (b = x.FF ∨ ∃ k, k < D T ∧ b = XB T k) := by
    rintro b ty n f hr h1 h2 (e | ⟨k, hk, e⟩)
    · exact hr.ne hM.base.st.ff h1 e
    · exact hr.ne (hfr.1.row k hk) h2 e
  have st := hM.base.st
  have hoz : ∀ {e : TypeId} {s n : Nat} {v : Value} {xs : List Value}, wr.ownsRow B e s v n xs → e ≠ 88 → e ≠ 55 → ∀ g, v.ownBlock = some g → ¬ (g = x.FF ∨ ∃ k, k < D T ∧ g = XB T k) := by
    rintro e s n v xs ho h1 h2 g hg (e' | ⟨k, hk, e'⟩)
    · exact own_ne ho st.ff h1 (by rw [hg, e'])
    · exact own_ne ho (hfr.1.row k hk) h2 (by rw [hg, e'])
  have hcnt : cnt (SU fan t M T o T) (bs fan t M T) + 1 = cnt (SJ fan t M M T) (bs fan t M T) := by
    have h1 : cnt (SU fan t M T o T) (bs fan t M T) = cnt (fun i => SJ fan t M M T i && !decide (i = o)) (bs fan t M T) := cnt_congr (fun i _ => by unfold SU; rw [if_pos rfl])
    rw [h1]
    exact cnt_del hin ho
  have hC' := hC.free hT (S' := SU fan t M T o) (fun l hl e => by funext i; unfold SU; rw [if_neg e]) (m := m) (by rw [hm, ← hcnt]; omega)
  have bM : ∀ l, bs fan t M l ≤ 65536 := fun l => Nat.le_trans (bs_le_off l M) hTr.all
  refine ⟨⟨hF, hC'.f0, hC'.f1, hC'.f2, ?_, ?_, fun l hl => (hM.base.fr l hl).2.2.1, fun l _ => bM l, ?_⟩, ?_⟩
  · intro l hl
    by_cases e : l = T
    · subst e; rw [if_pos rfl]; exact hW
    · rw [if_neg e]
      have hfl := hM.base.fr l hl
      refine hfl.1.keeps k (hz _ _ _ _ hfl.1.table (by decide) (by decide)) (fun i hi => ?_)
      rintro (e2 | ⟨k2, hk2, e2⟩)
      · exact (hfl.1.row i hi).ne st.ff (by decide) e2
      · exact hM.base.fri l T hl hT e i k2 hi hk2 e2
  · intro l hl
    by_cases e : l = T
    · subst e
      rw [if_pos rfl]
      have e2 : SU fan t M l o l = fun i => SJ fan t M M l i && !decide (i = o) := by funext i; unfold SU; rw [if_pos rfl]
      rw [e2]; exact hO
    · rw [if_neg e]
      have e2 : SU fan t M T o l = SJ fan t M M l := by funext i; unfold SU; rw [if_neg e]
      rw [e2]; exact (hM.base.fr l hl).2.1
  · intro l hl i hi
    have h0 : SJ fan t M M l i = false := by unfold SJ; rw [decide_eq_false (by omega), Bool.false_and]
    unfold SU
    rw [h0]; simp
  · have ro := own_keeps hM.ro k (hoz hM.ro (by decide) (by decide))
    have ru := own_keeps hM.ru k (hoz hM.ru (by decide) (by decide))
    refine { tr := hTr, nn := fun l _ => rfl, f5 := h5, ff := hF, m := hmr, head := hC'.head, c0 := hC'.c0, c1 := hC'.c1, c39 := hC'.c39, inn := ?_, lv := fun l hl => (st.lv l hl).keeps k (hz _ _ _ _ (st.lv l hl) (by decide) (by decide)), kb := fun e => (st.kb e).keeps k (hz _ _ _ _ (st.kb e) (by decide) (by decide)), lkr := fun e l hl => (st.lkr e l hl).keeps k (hz _ _ _ _ (st.lkr e l hl) (by decide) (by decide)), ro := ?_, ru := ?_, s1 := hL.s1, s2 := hL.s2, s3 := hL.s3, s4 := hL.s4, s5 := hL.s5, s6 := hL.s6, s7 := hL.s7, s8 := hL.s8, s9 := hL.s9, tps := hto }
    · intro l hl
      have hnt := nt_bs (M := M) hTr.pos l M (Nat.le_refl _)
      rw [hnt]
      by_cases e : l = 4
      · subst e
        rw [h5, Nat.mul_zero]
        exact hC'.c27
      · exact hC'.inn l (by omega)
    · have h := Sl.of_own ro
      exact h.congr (fun i hi => by unfold rootsL; rw [List.getD_eq_getElem?_getD, List.getElem?_map, List.getElem?_range hi]; rfl)
    · obtain ⟨hl, ⟨hv, hn⟩ | ⟨g, cap, cur, hv, hg, hh, hc, _, hs, hx⟩⟩ := ru
      · exact ⟨none, 0, by rw [hn]; exact hv, fun h0 => absurd h0 (by omega)⟩
      · refine ⟨_, cap, hv, fun _ => ⟨g, rfl, cur, hh, by omega, fun i hi => ?_⟩⟩
        have e : (cur.toList.take ((RL t M).length * 4))[i]? = cur[i]? := by
          rw [List.getElem?_take_of_lt (by omega), Array.getElem?_toList]
        rw [← e, hx]
        unfold runsL
        rw [List.getElem?_map, List.getElem?_range (by omega)]; rfl
end
end Go.Proofs.Qxb6609507a.U
