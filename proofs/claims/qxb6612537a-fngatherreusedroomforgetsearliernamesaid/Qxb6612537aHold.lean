import Derived.Test.Qxb6612537aMapV
namespace Go.Proofs.Qxb6612537a.U
open Go.RowKit Go.Proofs.Qxb6612537a.Plain
set_option linter.unusedVariables false
set_option linter.unusedSimpArgs false

theorem wf_small {r : Int} (h0 : -1 ≤ r) (h1 : r ≤ 3) : (Lit.int .i64 r).wf = true := by
  have : r = -1 ∨ r = 0 ∨ r = 1 ∨ r = 2 ∨ r = 3 := by omega
  rcases this with rfl | rfl | rfl | rfl | rfl <;> decide
/-- What hold makes of the map, for one record and for the first n. -/
def upd (m : Int → Option Int) (tx r : Int) : Int → Option Int := match m tx with
  | some o => if o < r then (fun t => if t = tx then some r else m t) else m
  | none => fun t => if t = tx then some r else m t
def holdN (R : Nat → HRec) (m : Int → Option Int) : Nat → Int → Option Int
  | 0 => m
  | n + 1 => upd (holdN R m n) (R n).tx (rankOf (R n).sv)
structure HSt (w0 : World) (WB XB MB : Nat) (H V Bk : Value) (n : Nat) (m : Int → Option Int) (wr : World) : Prop where
  st : Row wr WB 60 4 (four (.map (some MB)) H V Bk)
  bx : Row wr XB 32 1 (fun _ => .pointer (some ⟨WB, 0, none⟩))
  mp : MapIs wr MB n m
  kp : Keeps (fun b => b = MB) w0 wr
theorem HSt.keeps {w0 : World} {WB XB MB : Nat} {H V Bk : Value} {n : Nat} {m : Int → Option Int} {wr wr' : World} (h : HSt w0 WB XB MB H V Bk n m wr) (k : Keeps (fun _ => False) wr wr') : HSt w0 WB XB MB H V Bk n m wr' :=
  ⟨h.st.keeps k (fun h => h), h.bx.keeps k (fun h => h), h.mp.keeps k (fun h => h), h.kp.trans (k.more (fun _ h => h.elim))⟩
theorem HSt.turned {w0 : World} {WB XB MB : Nat} {H V Bk : Value} {n n' : Nat} {m m' : Int → Option Int} {wr wr' : World} (h : HSt w0 WB XB MB H V Bk n m wr) (k : wr.mapTurned wr' MB) (hm : MapIs wr' MB n' m') : HSt w0 WB XB MB H V Bk n' m' wr' :=
  ⟨h.st.keeps (keeps_turned k) (h.mp.row_ne h.st), h.bx.keeps (keeps_turned k) (h.mp.row_ne h.bx), hm, h.kp.trans (keeps_turned k)⟩
theorem HSt.more {w0 : World} {WB XB MB : Nat} {H V Bk : Value} {n n' : Nat} {m : Int → Option Int} {wr : World} (h : HSt w0 WB XB MB H V Bk n m wr) (hn : n ≤ n') : HSt w0 WB XB MB H V Bk n' m wr := by
  obtain ⟨D, ho, hD⟩ := h.mp
  exact ⟨h.st, h.bx, ⟨D, ho.mono hn, hD⟩, h.kp⟩
theorem cell_turned {W W' : World} {b : Nat} {a : Addr} {v : Value} (h : W.mapTurned W' b) (hc : W.cell? a = some v) : W'.cell? a = some v := by
  have hk := keeps_turned h
  obtain ⟨es, clock, es', clock', hb, _⟩ := h
  have hlt : a.block < W.heap.size := by
    refine Nat.not_le.1 fun hle => ?_
    unfold World.cell? at hc
    rw [Array.getElem?_eq_none hle] at hc
    simp at hc
  have hne : a.block ≠ b := by
    intro e
    unfold World.cell? at hc
    rw [e, hb] at hc
    simp at hc
  have e := hk.block a.block hlt hne
  unfold World.cell? at hc ⊢
  rw [e]; exact hc
/-- A store into the map, as a function of the world. -/
theorem store_fun {w : World} {b n : Nat} {m : Int → Option Int} (h : MapIs w b n m) (hn : n < maxLen) {tx r : Int} (ht : (Lit.int .i64 tx).wf = true) (hr : (Lit.int .i64 r).wf = true) :
    ∃ f : World → World, ∀ W, W.heap[b]? = w.heap[b]? → (Instr.mapUpdate 55 (.map (some b)) (.int .i64 tx) (.int .i64 r)).run Try.prog W = .ok () (f W) ∧ MapIs (f W) b (n + 1) (fun t => if t = tx then some r else m t) ∧ W.mapTurned (f W) b := by
  classical
  refine ⟨fun W => if e : W.heap[b]? = w.heap[b]? then Classical.choose ((h.of_block e).store hn ht hr) else W, fun W e => ?_⟩
  have hs := Classical.choose_spec ((h.of_block e).store hn ht hr)
  simp only [dif_pos e]
  exact hs
set_option maxHeartbeats 2000000 in
set_option maxRecDepth 10000 in
theorem hold33_any (WB XB MB b off n c cnt : Nat) (A : Option Addr) (H V Bk : Value) (m : Int → Option Int) (R : Nat → HRec) (w : World) (hin : In w A 3 n fun i => hc (R i)) (hn : n ≤ 4096) (hcnt : cnt ≤ 10000000)
    (htx : ∀ i, i < n → (Lit.int .i64 (R i).tx).wf = true) (h0 : HSt w WB XB MB H V Bk cnt m w) :
    Calls Try.prog 33 #[.slice A n c, .pointer (some ⟨XB, 0, none⟩)] w (fun e w' => e = .returned (.tuple #[]) ∧ HSt w WB XB MB H V Bk (cnt + n) (holdN R m n) w') := by
  have H0 := hid h0
  have Hin := hid hin
  have Htx := hid htx
  clear h0 hin htx
  go_enter Try.func33, Try.ntmps33
  go_wp2_with fail
  go_loopg [9] n (fun gk s9 wr => ∃ i : Nat, gk = n - i ∧ i ≤ n ∧ s9 = .int .i64 (i : Nat) ∧ HSt w WB XB MB H V Bk (cnt + i) (holdN R m i) wr)
  case atStart => exact ⟨0, rfl, Nat.zero_le _, rfl, H0.out⟩
  case round =>
    obtain ⟨i, rfl, hi, rfl, HS⟩ := hrel
    replace HS := hid HS
    by_cases hlt : i < n
    · obtain ⟨ba, o0, rfl, hba, hcs⟩ := Hin.out (by omega)
      have hltI : ((i : Nat) : Int) < (n : Int) := by omega
      have hbM : ba ≠ MB := by
        rintro rfl
        obtain ⟨D, ⟨es, clock, hb, _⟩, _⟩ := H0.out.mp
        have h1 := hcs i hlt 0 (by omega)
        unfold World.cell? at h1
        rw [hb] at h1
        simp at h1
      replace hcs := hcs.keeps HS.out.kp hba hbM i hlt
      have c0 : wr.cell? ⟨ba, o0 + i * 3, none⟩ = some (.string (R i).nm) := hcs 0 (by omega)
      have c1 : wr.cell? ⟨ba, o0 + i * 3 + 1, none⟩ = some (.string (R i).sv) := hcs 1 (by omega)
      have c2 : wr.cell? ⟨ba, o0 + i * 3 + 2, none⟩ = some (.int .i64 (R i).tx) := hcs 2 (by omega)
      clear hcs
      have cf : wr.cell? ⟨XB, 0, none⟩ = some (.pointer (some ⟨WB, 0, none⟩)) := HS.out.bx.cell (i := 0) (by omega)
      have cm : wr.cell? ⟨WB, 0, none⟩ = some (.map (some MB)) := HS.out.st.cell (i := 0) (by omega)
      have hWB := HS.out.st.lt
      have hXB := HS.out.bx.lt
      obtain ⟨v0, hv0, hlook⟩ := HS.out.mp.look (Htx.out i hlt)
      have hrk := rankOf_bounds (R i).sv
      obtain ⟨f, hf⟩ := store_fun HS.out.mp (by simp [maxLen]; omega) (Htx.out i hlt) (r := rankOf (R i).sv) (wf_small hrk.1 hrk.2)
      go_upto_region 3 with fail
      generalize hwc : wr.alloc (Obj.cells #[Value.string (R i).nm, Value.string (R i).sv, Value.int IntKind.i64 (R i).tx] 70) = wc
      have HW : HSt w WB XB MB H V Bk (cnt + i) (holdN R m i) wc := by rw [← hwc]; exact HS.out.keeps ((Keeps.refl _ wr).alloc _)
      have HL : Row wc wr.heap.size 70 3 (fun q => if q = 0 then .string (R i).nm else if q = 1 then .string (R i).sv else .int .i64 (R i).tx) := by
        rw [← hwc]
        exact Row.new wr _ 70 _ (fun q hq => by
          have : q = 0 ∨ q = 1 ∨ q = 2 := by simp at hq; omega
          rcases this with rfl | rfl | rfl <;> rfl)
      have hbl : wc.heap[MB]? = wr.heap[MB]? := by rw [← hwc]; exact Go.Deep.blk_alloc_lt _ _ _ HS.out.mp.lt
      obtain ⟨LB, hLB⟩ : ∃ LB, LB = wr.heap.size := ⟨_, rfl⟩
      rw [← hLB] at HL ⊢
      have d1 : wc.cell? ⟨LB, 1, none⟩ = some (.string (R i).sv) := HL.cell (i := 1) (by omega)
      have d2 : wc.cell? ⟨LB, 2, none⟩ = some (.int .i64 (R i).tx) := HL.cell (i := 2) (by omega)
      have df : wc.cell? ⟨XB, 0, none⟩ = some (.pointer (some ⟨WB, 0, none⟩)) := HW.bx.cell (i := 0) (by omega)
      have dm : wc.cell? ⟨WB, 0, none⟩ = some (.map (some MB)) := HW.st.cell (i := 0) (by omega)
      have hlk : ∀ k, (Instr.lookup 55 (.map (some MB)) (.int .i64 (R i).tx) true).run Try.prog (wc.drewN k) = .ok (.tuple #[.int .i64 v0, .bool ((holdN R m i) (R i).tx).isSome]) (wc.drewN k) := fun k => hlook _ hbl
      have hlk0 : (Instr.lookup 55 (.map (some MB)) (.int .i64 (R i).tx) true).run Try.prog wc = .ok (.tuple #[.int .i64 v0, .bool ((holdN R m i) (R i).tx).isSome]) wc := hlook _ hbl
      replace HW := hid HW
      replace hf := hid hf
      clear c0 c1 c2 cf cm hlook hwc HS HL hWB hXB hLB
      go_quiet (fail)
      clear hlk hlk0
      have HW' : Hid (HSt w WB XB MB H V Bk (cnt + i) (holdN R m i) (wc.drewN nq)) := HW.out.keeps ((Keeps.refl _ wc).drewN nq)
      have hf' : Hid (∀ W, W.heap[MB]? = (wc.drewN nq).heap[MB]? → (Instr.mapUpdate 55 (.map (some MB)) (.int .i64 (R i).tx) (.int .i64 (rankOf (R i).sv))).run Try.prog W = .ok () (f W) ∧ MapIs (f W) MB (cnt + i + 1) (fun t => if t = (R i).tx then some (rankOf (R i).sv) else holdN R m i t) ∧ W.mapTurned (f W) MB) := fun W e => hf.out W (e.trans hbl)
      have e1 : (wc.drewN nq).cell? ⟨LB, 1, none⟩ = some (.string (R i).sv) := d1
      have e2 : (wc.drewN nq).cell? ⟨LB, 2, none⟩ = some (.int .i64 (R i).tx) := d2
      have ef : (wc.drewN nq).cell? ⟨XB, 0, none⟩ = some (.pointer (some ⟨WB, 0, none⟩)) := df
      have em : (wc.drewN nq).cell? ⟨WB, 0, none⟩ = some (.map (some MB)) := dm
      clear d1 d2 df dm hbl HW hf
      generalize wc.drewN nq = wd at *
      have CR := rank_any (R i).sv
      have hst : ∀ W, W.heap[MB]? = wd.heap[MB]? → (Instr.mapUpdate 55 (.map (some MB)) (.int .i64 (R i).tx) (.int .i64 (rankOf (R i).sv))).run Try.prog W = .ok () (f W) := fun W e => (hf'.out W e).1
      have hst0 := hst wd rfl
      have hst1 := hst wd.drew rfl
      have hst2 := fun k => hst (wd.drewN k) rfl
      obtain ⟨rk, hrk'⟩ : ∃ rk, rk = rankOf (R i).sv := ⟨_, rfl⟩
      have Hupd := hid (show holdN R m (i + 1) = upd (holdN R m i) (R i).tx (rankOf (R i).sv) from rfl)
      rw [← hrk'] at CR hst0 hst1 hst2 hf' Hupd hrk
      clear hrk' hst
      have kf : (f wd.drew).cell? ⟨LB, 1, none⟩ = some (.string (R i).sv) ∧ (f wd.drew).cell? ⟨LB, 2, none⟩ = some (.int .i64 (R i).tx) ∧ (f wd.drew).cell? ⟨XB, 0, none⟩ = some (.pointer (some ⟨WB, 0, none⟩)) ∧ (f wd.drew).cell? ⟨WB, 0, none⟩ = some (.map (some MB)) := by
        have ht := (hf'.out wd.drew rfl).2.2
        exact ⟨cell_turned ht e1, cell_turned ht e2, cell_turned ht ef, cell_turned ht em⟩
      have HT : Hid (HSt w WB XB MB H V Bk (cnt + i + 1) (fun t => if t = (R i).tx then some rk else holdN R m i t) (f wd.drew)) := (HW'.out.keeps ((Keeps.refl _ wd).drew)).turned (hf'.out wd.drew rfl).2.2 (hf'.out wd.drew rfl).2.1
      cases hm : holdN R m i (R i).tx with
      | none =>
        have HN : Hid (holdN R m (i + 1) = fun t => if t = (R i).tx then some rk else holdN R m i t) := by
          show _ = _
          rw [Hupd.out]; unfold upd; rw [hm]
        clear Hupd hv0
        go_wp2_with fail
        go_region_held3 (fun w' => w'.cell? ⟨LB, 1, none⟩ = some (.string (R i).sv) ∧ w'.cell? ⟨LB, 2, none⟩ = some (.int .i64 (R i).tx) ∧ w'.cell? ⟨XB, 0, none⟩ = some (.pointer (some ⟨WB, 0, none⟩)) ∧ w'.cell? ⟨WB, 0, none⟩ = some (.map (some MB))) (first | exact ⟨e1, e2, ef, em⟩ | exact kf) ((go_at_call 34; refine (CR _).mono ?_; rintro e w2 ⟨rfl, rfl⟩))
        go_wp2
        go_roundg (n - (i + 1))
        case measure => omega
        case rel => exact ⟨i + 1, rfl, by omega, by go_num, by rw [HN.out]; exact HT.out⟩
      | some o =>
        obtain rfl := hv0 o hm
        by_cases hlt2 : v0 < rk
        · have HN : Hid (holdN R m (i + 1) = fun t => if t = (R i).tx then some rk else holdN R m i t) := by
            show _ = _
            rw [Hupd.out]; unfold upd; rw [hm]
            simp only [if_pos hlt2]
          clear Hupd hv0
          go_wp2_with (go_at_call 34; refine (CR _).mono ?_; rintro e w2 ⟨rfl, rfl⟩)
          go_region_held3 (fun w' => w'.cell? ⟨LB, 1, none⟩ = some (.string (R i).sv) ∧ w'.cell? ⟨LB, 2, none⟩ = some (.int .i64 (R i).tx) ∧ w'.cell? ⟨XB, 0, none⟩ = some (.pointer (some ⟨WB, 0, none⟩)) ∧ w'.cell? ⟨WB, 0, none⟩ = some (.map (some MB))) (first | exact ⟨e1, e2, ef, em⟩ | exact kf) ((go_at_call 34; refine (CR _).mono ?_; rintro e w2 ⟨rfl, rfl⟩))
          go_wp2
          go_roundg (n - (i + 1))
          case measure => omega
          case rel => exact ⟨i + 1, rfl, by omega, by go_num, by rw [HN.out]; exact HT.out⟩
        · have HN : Hid (holdN R m (i + 1) = holdN R m i) := by
            show _ = _
            rw [Hupd.out]; unfold upd; rw [hm]
            simp only [if_neg hlt2]
          clear Hupd hv0
          go_wp2_with (go_at_call 34; refine (CR _).mono ?_; rintro e w2 ⟨rfl, rfl⟩)
          go_roundg (n - (i + 1))
          case measure => omega
          case rel => exact ⟨i + 1, rfl, by omega, by go_num, by rw [HN.out]; exact HW'.out.more (by omega)⟩
    · have e : i = n := by omega
      subst e
      clear hlt
      go_wp2
      go_end0
      exact ⟨rfl, HS.out⟩
end Go.Proofs.Qxb6612537a.U
