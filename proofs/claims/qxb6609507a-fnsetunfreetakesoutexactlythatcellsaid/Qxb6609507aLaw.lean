import Derived.Test.Qxb6609507aLaw1
import Derived.Deep.CutBlock
import Derived.Deep.MidRow
namespace Go.Proofs.Qxb6609507a.U
open Go.RowKit Go.Proofs.Qxb6609507a.Plain
set_option linter.unusedVariables false
set_option linter.unusedSimpArgs false

theorem bytes_any (g p s n : Int) (a : Option Addr) (m c : Nat) (lk : Bool) (l o : Int) (w : World) (hm : m ≤ 9223372036854775807) :
    Calls Try.prog 15 #[.int .i64 g, .int .i64 p, .int .i64 s, .int .i64 n, .slice a m c, .bool lk, .int .i8 l, .int .i32 o] w (fun e w' => (∃ r, e = .returned (.bool r)) ∧ w' = w) := by
  by_cases h : m ≤ 1048576
  · go_enter Try.func15, Try.ntmps15
    go_wp2
    go_ret
    exact ⟨⟨_, rfl⟩, rfl⟩
  · go_enter Try.func15, Try.ntmps15
    go_wp2
    go_ret
    exact ⟨⟨_, rfl⟩, rfl⟩
theorem zzGrow_any (g p s n : Nat) (t : Nat → Nat) (M : Nat) (a0 : Option Addr) (c0' : Nat) (lk : Bool) (w : World) (hS : Small g p s n) (hT : Trees (fanOf g p s n) t M) (hTo : Tops w a0 M (fun i => (t i : Int))) :
    Calls Try.prog 10 #[.agg #[.int .i64 g, .int .i64 p, .int .i64 s, .int .i64 n], .slice a0 M c0', .bool lk] w (fun e w' => ∃ w1, Below w.heap.size w w1 ∧ GfPost (fanOf g p s n) t M lk w1 e w') := by
  have hb : Below w.heap.size w (w.alloc (.cells #[.int .i64 g, .int .i64 p, .int .i64 s, .int .i64 n] 38)) := (Below.refl _ _).alloc (Nat.le_refl _) _
  have GF := growForest_any g p s n t M a0 c0' lk (w.alloc (.cells #[.int .i64 g, .int .i64 p, .int .i64 s, .int .i64 n] 38)) hS hT (hTo.below hb)
  have HB := hid hb
  clear hS hT hTo hb
  go_enter Try.func10, Try.ntmps10
  go_wp2_with (go_at_call 35; refine GF.mono ?_; rintro e w2 ⟨x, D, WB, cc, XB, rfl, hP⟩)
  go_ret
  exact ⟨_, HB.out, x, D, WB, cc, XB, rfl, hP⟩
theorem tops_row {w : World} {b m : Nat} {t : Nat → Int} (h : Row w b 48 m (fun i => .int .i8 (t i))) : Tops w (some ⟨b, 0, none⟩) m t := fun _ =>
  ⟨b, 0, rfl, h.lt, fun i hi => by rw [Nat.zero_add]; exact h.cell hi⟩
theorem there36 (w3 : World) (cs : Array Value) (h : cs.size = 36) : (w3.alloc (.cells cs 33)).there w3.heap.size 0 36 := by
  have hr : Row (w3.alloc (.cells cs 33)) w3.heap.size 33 cs.size (fun i => cs.getD i undef) := Row.new w3 cs 33 _ (fun i hi => by
    rw [Array.getElem?_eq_getElem hi]
    simp [Array.getD, hi])
  intro j hj
  rw [hr.cell (by omega)]
  exact ⟨rfl, hr.frozen _⟩
theorem row36 (w3 : World) (cs : Array Value) (h : cs.size = 36) (f : Nat → Value) : Row ((w3.alloc (.cells cs 33)).setCells w3.heap.size 0 ((List.range 36).map f)) w3.heap.size 33 36 f := by
  have hr : Row (w3.alloc (.cells cs 33)) w3.heap.size 33 cs.size (fun i => cs.getD i undef) := Row.new w3 cs 33 _ (fun i hi => by
    rw [Array.getElem?_eq_getElem hi]
    simp [Array.getD, hi])
  rw [h] at hr
  refine (Row.setCells ((List.range 36).map f) 0 _ _ hr).congr fun j hj => ?_
  rw [if_pos ⟨Nat.zero_le _, by rw [List.length_map, List.length_range]; omega⟩, Nat.sub_zero, List.getD_eq_getElem?_getD, List.getElem?_map, List.getElem?_range hj]; rfl
theorem one36 {w : World} {fan : Nat → Nat} {V : Nat → Value} {n : Nat → Nat} {f : Nat → Nat → Value} (h : ∀ q, 11 ≤ q → q < 36 → Sl w (V q) (ty q) (n q) (f q)) : ((List.range 36).map (layC fan V)).toArray.all (·.oneCell') = true := by
  refine all_oneCell_toArray fun v hv => ?_
  obtain ⟨q, hq, rfl⟩ := List.mem_map.1 hv
  rw [List.mem_range] at hq
  unfold layC
  split
  · rfl
  · split
    · rfl
    · obtain ⟨a, c, e⟩ := (h q (by omega) hq).form
      rw [e]; rfl

set_option maxRecDepth 100000 in
set_option maxHeartbeats 8000000 in
theorem law_any (g p s n : Int) (a : Option Addr) (m c : Nat) (t : Nat → Int) (lk : Bool) (l o : Int) (w : World) (hm : m ≤ 9223372036854775807) (ht : Tops w a m t) (h8 : ∀ i, i < m → -128 ≤ t i ∧ t i ≤ 127) (hl8 : -128 ≤ l ∧ l ≤ 127) (ho : -2147483648 ≤ o ∧ o ≤ 2147483647) :
    Calls Try.prog 4 #[.int .i64 g, .int .i64 p, .int .i64 s, .int .i64 n, .slice a m c, .bool lk, .int .i8 l, .int .i32 o] w (fun e w' => e = .returned (.bool true) ∧ Below w.heap.size w w') := by
  have C15 := bytes_any g p s n a m c lk l o w hm
  have HTo := hid ht
  have H8 := hid h8
  clear ht h8
  go_enter Try.func4, Try.ntmps4
  go_upto_if 33 with (go_at_call 15; refine C15.mono ?_; rintro e w2 ⟨⟨r, rfl⟩, rfl⟩)
  clear C15
  cases r with
  | false =>
    go_wp2
    go_ret
    exact ⟨rfl, Below.refl _ _⟩
  | true =>
    by_cases hm6 : m ≤ 65536
    · have C8 := zzTopo_any g p s n a m c t w2 hm6 HTo.out H8.out
      go_upto_if 48 with (go_at_call 8; refine C8.mono ?_; rintro e w1 ⟨a0, a1, a2, a3, a4, b0, b1, b2, b3, b4, b5, r, rfl, hb1, hr⟩)
      clear C8
      have HB1 := hid hb1
      have Hr := hid hr
      clear hb1 hr
      cases r with
      | false =>
        go_wp2
        go_ret
        exact ⟨rfl, (HB1.out.alloc HB1.out.size _).alloc (by rw [Go.Deep.nblk_alloc]; have := HB1.out.size; omega) _⟩
      | true =>
        obtain ⟨G, P, S, N, T, rfl, rfl, rfl, rfl, hS, rfl, rfl, rfl, rfl, rfl, rfl, rfl, rfl, rfl, rfl, rfl, hTi, hoff⟩ := Hr.out rfl
        have hTr : Trees (fanOf G P S N) T m := ⟨fun l hl => hS.sz_le l hl, fun l => hS.fan_le l, fun j hj => (hTi j hj).2.1, fun j hj => (hTi j hj).2.2, hoff, hm6⟩
        have HTr := hid hTr
        have HS := hid hS
        have hTo2 : Tops w2 a m (fun i => (T i : Int)) := fun h0 => by
          obtain ⟨b, ob, h1, h2, h3⟩ := HTo.out h0
          exact ⟨b, ob, h1, h2, fun i hi => by rw [h3 i hi, (hTi i hi).1]⟩
        have HTo2 := hid hTo2
        have hBs := HB1.out.size
        have HW1 : ∀ o1 o2, Hid (Below w2.heap.size w2 ((w1.alloc o1).alloc o2)) := fun o1 o2 => (HB1.out.alloc HB1.out.size _).alloc (by rw [Go.Deep.nblk_alloc]; omega) _
        have HTL : ∀ o1 o2, Tops ((w1.alloc o1).alloc o2) a m (fun i => (T i : Int)) := fun o1 o2 => hTo2.below (HW1 o1 o2).out
        have C9 : ∀ W, Tops W a m (fun i => (T i : Int)) → Calls Try.prog 9 #[.agg #[.int .i64 1, .int .i64 (sz (fanOf G P S N) 1 : Nat), .int .i64 (sz (fanOf G P S N) 2 : Nat), .int .i64 (sz (fanOf G P S N) 3 : Nat), .int .i64 (sz (fanOf G P S N) 4 : Nat)], .agg #[.int .i64 0, .int .i64 G, .int .i64 P, .int .i64 S, .int .i64 N, .int .i64 0], .slice a m c] W (BuildPost (fanOf G P S N) T m W) := fun W hW => build_any (fanOf G P S N) T m a c W hTr hW
        clear hTr hS hTo2 hTi hoff Hr HTo H8
        by_cases hl0 : 0 ≤ l
        · by_cases hl4 : l ≤ 4
          · obtain ⟨L, rfl⟩ : ∃ L : Nat, l = L := ⟨l.toNat, by omega⟩
            have hL4 : L ≤ 4 := by omega
            clear hl8 hl0 hl4
            go_upto_region 11 with (first | (go_at_call 9; refine (C9 _ (HTL _ _)).mono ?_; rintro e w3 ⟨V, rfl, hb3, hsl⟩; have hone := one36 (fan := fanOf G P S N) hsl) | (refine wpList_store_mid (by rfl) 33 _ _ rfl w3.heap.size 0 ((List.range 36).map (layC (fanOf G P S N) V)).toArray (by rfl) (by rfl) (there36 _ _ (by rfl)) info33 hone ?_))
            have hbW := (HW1 _ _).out.trans (hb3.mono (HW1 _ _).out.size)
            have HB3 := hid hbW
            have HLS := hid (LayS.of (fan := (fanOf G P S N)) (t := T) (M := m) hsl)
            have hmr := row36 w3 #[.int .i64 0, .int .i64 0, .int .i64 0, .int .i64 0, .int .i64 0, .int .i64 0, .int .i64 0, .int .i64 0, .int .i64 0, .int .i64 0, .int .i64 0, .slice none 0 0, .slice none 0 0, .slice none 0 0, .slice none 0 0, .slice none 0 0, .slice none 0 0, .slice none 0 0, .slice none 0 0, .slice none 0 0, .slice none 0 0, .slice none 0 0, .slice none 0 0, .slice none 0 0, .slice none 0 0, .slice none 0 0, .slice none 0 0, .slice none 0 0, .slice none 0 0, .slice none 0 0, .slice none 0 0, .slice none 0 0, .slice none 0 0, .slice none 0 0, .slice none 0 0, .slice none 0 0] rfl (layC (fanOf G P S N) V)
            have hb4 : Below w3.heap.size w3 ((w3.alloc (.cells #[.int .i64 0, .int .i64 0, .int .i64 0, .int .i64 0, .int .i64 0, .int .i64 0, .int .i64 0, .int .i64 0, .int .i64 0, .int .i64 0, .int .i64 0, .slice none 0 0, .slice none 0 0, .slice none 0 0, .slice none 0 0, .slice none 0 0, .slice none 0 0, .slice none 0 0, .slice none 0 0, .slice none 0 0, .slice none 0 0, .slice none 0 0, .slice none 0 0, .slice none 0 0, .slice none 0 0, .slice none 0 0, .slice none 0 0, .slice none 0 0, .slice none 0 0, .slice none 0 0, .slice none 0 0, .slice none 0 0, .slice none 0 0, .slice none 0 0, .slice none 0 0, .slice none 0 0] 33)).setCells w3.heap.size 0 ((List.range 36).map (layC (fanOf G P S N) V))) := Below.cells (Nat.le_refl _) _ 0 _ ((Below.refl _ _).alloc (Nat.le_refl _) _)
            generalize hW4 : (w3.alloc (.cells #[.int .i64 0, .int .i64 0, .int .i64 0, .int .i64 0, .int .i64 0, .int .i64 0, .int .i64 0, .int .i64 0, .int .i64 0, .int .i64 0, .int .i64 0, .slice none 0 0, .slice none 0 0, .slice none 0 0, .slice none 0 0, .slice none 0 0, .slice none 0 0, .slice none 0 0, .slice none 0 0, .slice none 0 0, .slice none 0 0, .slice none 0 0, .slice none 0 0, .slice none 0 0, .slice none 0 0, .slice none 0 0, .slice none 0 0, .slice none 0 0, .slice none 0 0, .slice none 0 0, .slice none 0 0, .slice none 0 0, .slice none 0 0, .slice none 0 0, .slice none 0 0, .slice none 0 0] 33)).setCells w3.heap.size 0 ((List.range 36).map (layC (fanOf G P S N) V)) = w4 at hmr hb4 ⊢
            have HL4 := hid (HLS.out.below hb4)
            have HB4 := hid (HB3.out.trans (hb4.mono HB3.out.size))
            have Hmr := hid hmr
            have HTo4 := hid (HTo2.out.below HB4.out)
            clear hW4 hmr hb4 hbW hb3 hsl hone HLS HB3 HW1 HTL C9 HB1 hBs
            go_upto_block 0 with fail
            go_cut [21] from 59 to 79 (fun s21 wx => wx = w4 ∧ ∃ b : Bool, s21 = .bool b ∧ (b = true → ∃ j, j < m ∧ T j = L ∧ o = (bs (fanOf G P S N) T j (T j) : Nat)))
            case first =>
              go_wp2_with fail
              go_loopg [21, 22] m (fun gk s21 s22 wr => ∃ (j : Nat) (b : Bool), gk = m - j ∧ j ≤ m ∧ s21 = .bool b ∧ s22 = .int .i64 (j : Nat) ∧ (b = true → ∃ j, j < m ∧ T j = L ∧ o = (bs (fanOf G P S N) T j (T j) : Nat)) ∧ wr = w4)
              case atStart => exact ⟨0, false, rfl, Nat.zero_le _, rfl, rfl, fun h => absurd h (by decide), rfl⟩
              case round =>
                obtain ⟨j, b, rfl, hj, rfl, rfl, hbb, rfl⟩ := hrel
                have Hbb := hid hbb
                clear hbb
                by_cases hlt : j < m
                · obtain ⟨tb, ob, rfl, htb, htc⟩ := HTo4.out (by omega)
                  obtain ⟨Tj, hTj⟩ : ∃ Tj, Tj = T j := ⟨_, rfl⟩
                  obtain ⟨bq, hbq⟩ : ∃ bq, bq = bs (fanOf G P S N) T j (T j) := ⟨_, rfl⟩
                  have ct : wr.cell? ⟨tb, ob + j, none⟩ = some (.int .i8 (Tj : Nat)) := by rw [hTj]; exact htc j hlt
                  obtain ⟨go, co, hvo, czo⟩ := HL4.out.s5.cell hlt
                  have m1 : wr.cell? ⟨w3.heap.size, 31, none⟩ = some (V 31) := (Hmr.out.cell (by omega)).trans (congrArg some (layC_V _ V (by omega)))
                  rw [hvo] at m1
                  rw [← hbq] at czo
                  have hjI : ((j : Nat) : Int) < (m : Int) := by omega
                  have HTj := hid hTj
                  have Hbq := hid hbq
                  clear htc hvo hTj hbq
                  by_cases e1 : Tj = L
                  · have b1 : (((Tj : Nat) : Int) == ((L : Nat) : Int)) = true := beqT e1
                    by_cases e2 : ((bq : Nat) : Int) = o
                    · have b2 : (((bq : Nat) : Int) == o) = true := by simp [e2]
                      have HN : Hid (∃ j, j < m ∧ T j = L ∧ o = (bs (fanOf G P S N) T j (T j) : Nat)) := ⟨j, hlt, by rw [← HTj.out]; exact e1, by rw [← e2, Hbq.out]⟩
                      clear e1 e2
                      go_wp2
                      go_roundg (m - (j + 1))
                      case measure => omega
                      case rel => exact ⟨j + 1, true, rfl, by omega, rfl, by go_num, fun _ => HN.out, rfl⟩
                    · have b2 : (((bq : Nat) : Int) == o) = false := by simp [e2]
                      clear e1 e2
                      go_wp2
                      go_roundg (m - (j + 1))
                      case measure => omega
                      case rel => exact ⟨j + 1, b, rfl, by omega, rfl, by go_num, Hbb.out, rfl⟩
                  · have b1 : (((Tj : Nat) : Int) == ((L : Nat) : Int)) = false := beqF e1
                    clear e1
                    go_wp2
                    go_roundg (m - (j + 1))
                    case measure => omega
                    case rel => exact ⟨j + 1, b, rfl, by omega, rfl, by go_num, Hbb.out, rfl⟩
                · go_wp2
                  go_meet
                  case rel => exact ⟨rfl, b, rfl, Hbb.out⟩
            case rest =>
              obtain ⟨rfl, b, rfl, hbb⟩ := hcut
              cases b with
              | false =>
                clear hbb
                go_wp2
                go_ret
                exact ⟨rfl, HB4.out⟩
              | true =>
                obtain ⟨j, hj, hTj, hoo⟩ := hbb rfl
                obtain ⟨oo, hoq⟩ : ∃ oo, oo = bs (fanOf G P S N) T j L := ⟨_, rfl⟩
                have hoi : o = (oo : Int) := by rw [hoo, hTj, hoq]
                clear hoo hbb
                subst hoi
                have HTj := hid hTj
                have Hoq := hid hoq
                have C11 := topo_any G P S N wc
                clear hTj hoq
                go_upto_if 92 with (first | (go_at_call 11; refine C11.mono ?_; rintro e w5 ⟨rfl, hb5⟩; have hT5 := HTo4.out.below hb5; have C12 := levels_any a m c _ w5 hm6 hT5) | (go_at_call 12; refine C12.mono ?_; rintro e w6 ⟨rfl, hb6, hr6⟩; have C10 := zzGrow_any G P S N T m (some ⟨w5.heap.size, 0, none⟩) m lk w6 HS.out HTr.out (tops_row hr6)) | (go_at_call 10; refine C10.mono ?_; rintro e w7 ⟨w7', hb7, x, D, WB, cc, XB, rfl, hP⟩))
                obtain ⟨C, X, V0, V1, hC, hM⟩ := hP
                have bM : ∀ l, bs (fanOf G P S N) T m l ≤ 65536 := fun l => Nat.le_trans (bs_le_off l m) HTr.out.all
                have hjL : bs (fanOf G P S N) T (j + 1) L = oo + 1 := by
                  have hp := HTr.out.pos j hj
                  rw [HTj.out] at hp
                  show bs (fanOf G P S N) T j L + cn (fanOf G P S N) (T j) L = _
                  rw [HTj.out, cn_self hp, Hoq.out]
                have hoN : oo < bs (fanOf G P S N) T m L := by
                  have h1 := bs_mono (fan := fanOf G P S N) (t := T) (show j + 1 ≤ m by omega) L
                  omega
                have hTp : Tp (fanOf G P S N) T m L oo = true := by
                  have hp := HTr.out.pos j hj
                  have h := Tp_at (fan := fanOf G P S N) (t := T) (M := m) (j := j) (l := L) (k := 0) hj (by rw [HTj.out] at hp ⊢; rw [cn_self hp]; exact Nat.one_pos)
                  rw [Nat.add_zero, ← Hoq.out, HTj.out] at h
                  rw [h]; simp
                have hSin : SJ (fanOf G P S N) T m m L oo = true := by rw [SJ_full (M' := 0) hoN]; exact hTp
                have hfr := hM.base.fr L (by omega)
                have C16 := zzSetUnfree_any x.FF L (bs (fanOf G P S N) T m L) (D L) (WB L) (cc L) oo (XB L) (SJ (fanOf G P S N) T m m L) (X L) C (cnt (SJ (fanOf G P S N) T m m L) (bs (fanOf G P S N) T m L)) w7 (by omega) hM.base.st.ff (hC.f0 L (by omega)) (hC.f2 L (by omega)) (Nat.le_trans (cnt_le _ _) (bM L)) hfr.2.2.2.1 hfr.2.2.1 (bM L) hfr.1 hfr.2.1 hoN hSin
                have hb47 : Below wc.heap.size wc w7' := (hb5.trans (hb6.mono hb5.size)).trans (hb7.mono (Nat.le_trans hb5.size hb6.size))
                have HFIN : ∀ w8, AddPost x.FF (7 + L * 3) (bs (fanOf G P S N) T m L) (D L) (WB L) (XB L) (fun i => SJ (fanOf G P S N) T m m L i && !decide (i = oo)) C ((cnt (SJ (fanOf G P S N) T m m L) (bs (fanOf G P S N) T m L) : Nat) - 1) w7 (.returned (.tuple #[])) w8 →
                    Hid (∃ C' X', FrS w8 x.FF C' (bs (fanOf G P S N) T m) D WB cc XB (SU (fanOf G P S N) T m L oo) X' ∧ Chk w8 (fanOf G P S N) T m x lk (bs (fanOf G P S N) T m) C' V V0 V1 w3.heap.size a ∧ LayS w8 (fanOf G P S N) T m V ∧ Row w8 w3.heap.size 33 36 (layC (fanOf G P S N) V) ∧ Below w2.heap.size w2 w8) := by
                  rintro w8 ⟨_, hk8, hF8, Y, hW8, hO8⟩
                  have hb78 : Below w7'.heap.size w7' w8 := hM.base.below.trans (hk8.below hM.base.lt (fun b e => by
                    rcases e with e | ⟨k2, hk2, e⟩
                    · rw [e]; exact hM.base.bF
                    · rw [e]; exact hfr.2.2.2.2 k2 hk2))
                  have hb48 : Below wc.heap.size wc w8 := hb47.trans (hb78.mono hb47.size)
                  have hU := unfree HTr.out (show L < 5 by omega) hoN hSin rfl hC hM rfl hk8 hF8 hW8 hO8 (HL4.out.below hb48) (Hmr.out.below hb48 Hmr.out.lt) (HTo4.out.below hb48)
                  exact ⟨_, _, hU.1, hU.2, HL4.out.below hb48, Hmr.out.below hb48 Hmr.out.lt, HB4.out.trans (hb48.mono HB4.out.size)⟩
                have HF := hid HFIN
                have hoo9 : oo ≤ 65536 := by have := bM L; omega
                have HoN := hid hoN
                clear hC hM hfr hb47 HFIN hb5 hb6 hb7 hr6 C10 C11 C12 hT5 hTp hSin hjL bM hoN
                go_upto_region 23 with (go_at_call 16; refine C16.mono ?_; rintro e w8 hA; obtain ⟨he, hA'⟩ := hA; subst he; obtain ⟨C', X', hFr, hCk, hLy, hMr, hBw⟩ := (HF.out w8 ⟨rfl, hA'⟩).out)
                have C14 := freeMatches_any (fanOf G P S N) (T := fun l i => Tp (fanOf G P S N) T m l i) L oo hFr hMr hLy.s4 (by omega) hoo9 (fun l hl i hi => by
                  unfold SU
                  rw [SJ_full (M' := 0) hi]
                  by_cases e : l = L
                  · rw [if_pos e, decide_eq_true e, Bool.true_and]
                  · rw [if_neg e, decide_eq_false e, Bool.false_and]; simp)
                have HCk := hid hCk
                have HBw := hid hBw
                clear hFr hCk hLy hMr hBw C16 HF hA'
                go_wp2_with (first | (go_at_call 14; refine C14.mono ?_; rintro e w9 ⟨rfl, hb9⟩; have C13 := checkForest_any (cT := c) (HCk.out.below hb9)) | (go_at_call 13; refine C13.mono ?_; rintro e w10 ⟨rfl, hb10⟩))
                go_ret
                exact ⟨rfl, (HBw.out.trans (hb9.mono HBw.out.size)).trans (hb10.mono (Nat.le_trans HBw.out.size hb9.size))⟩
          · go_wp2
            go_ret
            exact ⟨rfl, (HW1 _ _).out⟩
        · go_wp2
          go_ret
          exact ⟨rfl, (HW1 _ _).out⟩
    · go_wp2
      go_ret
      exact ⟨rfl, Below.refl _ _⟩
end Go.Proofs.Qxb6609507a.U
