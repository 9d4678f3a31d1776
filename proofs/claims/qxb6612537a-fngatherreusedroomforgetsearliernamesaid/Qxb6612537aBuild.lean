import Derived.Test.Qxb6612537aIn
import Derived.Deep.RegionHeld3
import Derived.Deep.RegionWith
namespace Go.Proofs.Qxb6612537a.U
open Go.RowKit Go.Proofs.Qxb6612537a.Plain
set_option linter.unusedVariables false
set_option linter.unusedSimpArgs false

def nil2 : Value := .slice none 0 0
theorem own_nil (w : World) (base : Nat) (e : TypeId) (size : Nat) : w.ownsRow base e size (.slice none 0 0) 0 [] := ⟨by simp, .inl ⟨rfl, rfl⟩⟩

def BPost (nh nw : Nat) (R : Nat → HRec) (W : Nat → WRec) (w : World) (e : Ending) (w' : World) : Prop :=
  ∃ V0 V1, e = .returned (.agg #[V0, V1]) ∧ w'.ownsRow w.heap.size 70 3 V0 nh (flat nh fun i => hc (R i)) ∧ w'.ownsRow w.heap.size 74 5 V1 nw (flat nw fun i => wc (W i)) ∧ Below w.heap.size w w'
/-- The listing's state. -/
def LSt (w : World) (i j : Nat) (R : Nat → HRec) (W : Nat → WRec) (V0 V1 : Value) (wr : World) : Prop :=
  Row wr w.heap.size 30 2 (pair (.slice none 0 0) (.slice none 0 0)) ∧ Row wr (w.heap.size + 1) 30 2 (pair V0 V1) ∧ wr.ownsRow w.heap.size 70 3 V0 i (flat i fun i => hc (R i)) ∧ wr.ownsRow w.heap.size 74 5 V1 j (flat j fun i => wc (W i)) ∧ Below w.heap.size w wr
theorem LSt.drewN {w : World} {i j : Nat} {R : Nat → HRec} {W : Nat → WRec} {V0 V1 : Value} {wr : World} (h : LSt w i j R W V0 V1 wr) (m : Nat) : LSt w i j R W V0 V1 (wr.drewN m) :=
  ⟨h.1, h.2.1, own_keeps h.2.2.1 ((Keeps.refl (fun _ => False) wr).drewN m) (fun _ _ h => h), own_keeps h.2.2.2.1 ((Keeps.refl (fun _ => False) wr).drewN m) (fun _ _ h => h), h.2.2.2.2.trans (((Keeps.refl (fun _ => False) wr).drewN m).below h.2.2.2.2.size (fun _ h => h.elim))⟩
theorem own_ge {w : World} {base : Nat} {e : TypeId} {size n : Nat} {v : Value} {xs : List Value} (h : w.ownsRow base e size v n xs) {b : Nat} (hb : v.ownBlock = some b) : base ≤ b ∧ b < w.heap.size := by
  obtain ⟨hl, h | ⟨g, cap, cur, hv, hb', hg, hr⟩⟩ := h
  · rw [h.1] at hb; cases hb
  · rw [hv] at hb
    have : g = b := by simpa [Value.ownBlock] using hb
    subst this
    exact ⟨hb', (Array.getElem?_eq_some_iff.1 hg).1⟩
theorem own_apart {w : World} {base : Nat} {e e' : TypeId} {size n size' n' : Nat} {v v' : Value} {xs xs' : List Value} (h : w.ownsRow base e size v n xs) (h' : w.ownsRow base e' size' v' n' xs') (ht : e ≠ e') {b : Nat} (hb : v.ownBlock = some b) : v'.ownBlock ≠ some b := by
  intro hb'
  obtain ⟨_, h | ⟨g, cap, cur, hv, _, hg, _⟩⟩ := h
  · rw [h.1] at hb; cases hb
  · obtain ⟨_, h' | ⟨g', cap', cur', hv', _, hg', _⟩⟩ := h'
    · rw [h'.1] at hb'; cases hb'
    · rw [hv] at hb
      rw [hv'] at hb'
      have e1 : g = b := by simpa [Value.ownBlock] using hb
      have e2 : g' = b := by simpa [Value.ownBlock] using hb'
      subst e1; subst e2
      rw [hg] at hg'
      simp only [Option.some.injEq, Obj.cells.injEq] at hg'
      exact ht hg'.2.1
theorem LSt.stepH {w : World} {i j : Nat} {R : Nat → HRec} {W : Nat → WRec} {V0 V1 : Value} {wr : World} (h : LSt w i j R W V0 V1 wr) {e : Ending} {w2 : World}
    (ha : AddPost (w.heap.size + 1) w.heap.size 70 3 i V0 (flat i fun i => hc (R i)) (hc (R i)) (fun V => pair V V1) wr e w2) : e = .returned (.tuple #[]) ∧ ∃ V, LSt w (i + 1) j R W V V1 w2 := by
  obtain ⟨rfl, V, ho, hr, hk⟩ := ha
  obtain ⟨h1, h2, h3, h4, h5⟩ := h
  refine ⟨rfl, V, h1.keeps hk ?_, hr, by rw [flat_succ]; exact ho, own_keeps h4 hk ?_, h5.trans (hk.below h5.size ?_)⟩
  · rintro (e | e)
    · omega
    · exact own_ne h3 h1 (by decide) e
  · rintro b hb (e | e)
    · exact own_ne h4 h2 (by decide) (hb.trans (by rw [e]))
    · exact own_apart h3 h4 (by decide) e hb
  · rintro k (e | e)
    · omega
    · exact (own_ge h3 e).1
theorem LSt.stepW {w : World} {i j : Nat} {R : Nat → HRec} {W : Nat → WRec} {V0 V1 : Value} {wr : World} (h : LSt w i j R W V0 V1 wr) {e : Ending} {w2 : World}
    (ha : AddPost (w.heap.size + 1) w.heap.size 74 5 j V1 (flat j fun i => wc (W i)) (wc (W j)) (fun V => pair V0 V) wr e w2) : e = .returned (.tuple #[]) ∧ ∃ V, LSt w i (j + 1) R W V0 V w2 := by
  obtain ⟨rfl, V, ho, hr, hk⟩ := ha
  obtain ⟨h1, h2, h3, h4, h5⟩ := h
  refine ⟨rfl, V, h1.keeps hk ?_, hr, own_keeps h3 hk ?_, by rw [flat_succ]; exact ho, h5.trans (hk.below h5.size ?_)⟩
  · rintro (e | e)
    · omega
    · exact own_ne h4 h1 (by decide) e
  · rintro b hb (e | e)
    · exact own_ne h3 h2 (by decide) (hb.trans (by rw [e]))
    · exact own_apart h4 h3 (by decide) e hb
  · rintro k (e | e)
    · omega
    · exact (own_ge h4 e).1
theorem LSt.start (w : World) (R : Nat → HRec) (W : Nat → WRec) : LSt w 0 0 R W (.slice none 0 0) (.slice none 0 0) ((w.alloc (.cells #[.slice none 0 0, .slice none 0 0] 30)).alloc (.cells #[.slice none 0 0, .slice none 0 0] 30)) := by
  have hc : ∀ i, i < (#[Value.slice none 0 0, Value.slice none 0 0] : Array Value).size → (#[Value.slice none 0 0, Value.slice none 0 0] : Array Value)[i]? = some (pair (.slice none 0 0) (.slice none 0 0) i) := by
    intro i hi
    have : i = 0 ∨ i = 1 := by simp at hi; omega
    rcases this with rfl | rfl <;> rfl
  exact ⟨(Row.new w _ 30 _ hc).alloc _, Row.new2 w _ _ 30 _ hc, own_nil _ _ _ _, own_nil _ _ _ _, ((Below.refl _ _).alloc (Nat.le_refl _) _).alloc (by simp) _⟩
theorem LSt.finish {w : World} {nh nw : Nat} {R : Nat → HRec} {W : Nat → WRec} {V0 V1 : Value} {wr : World} (h : LSt w nh nw R W V0 V1 wr) : BPost nh nw R W w (.returned (.agg #[V0, V1])) (wr.setCells w.heap.size 0 [V0, V1]) := by
  obtain ⟨h1, h2, h3, h4, h5⟩ := h
  have k : Keeps (fun b => b = w.heap.size) wr (wr.setCells w.heap.size 0 [V0, V1]) := Keeps.setCells (S := fun b => b = w.heap.size) (.inl rfl) _ _ _ (Keeps.refl _ _)
  refine ⟨V0, V1, rfl, own_keeps h3 k ?_, own_keeps h4 k ?_, h5.trans (k.below h5.size ?_)⟩
  · rintro b hb rfl; exact own_ne h3 h1 (by decide) hb
  · rintro b hb rfl; exact own_ne h4 h1 (by decide) hb
  · rintro b rfl; exact Nat.le_refl _

theorem results_cell {fn : Func} {a : Tmp} {t : TypeId} (h : fn.results = #[.cell a t]) (tmps : Array Value) (P : Program) (w : World) (p : Addr) (v : Value) (ha : tmps.getD a undef = .pointer (some p)) (hl : (loadVar t p).run P w = .ok v w) :
    (results fn tmps).run P w = .ok v w := by
  have ha' : tmps[a]?.getD undef = .pointer (some p) := by rw [← ha]; simp
  simp [results, h, asAddr, ha', hl]
theorem info30 : (Try.prog.info? 30).map (·.size) = some 2 := by kernel_rfl
theorem Row.range {w : World} {b : Nat} {t : TypeId} {n : Nat} {f : Nat → Value} (h : Row w b t n f) : w.rangeAt b 0 ((List.range n).map f) := fun j v hv => by
  rw [List.getElem?_map] at hv
  by_cases hj : j < n
  · rw [List.getElem?_range hj] at hv
    rw [Nat.zero_add, h.cell hj]; exact hv
  · rw [List.getElem?_eq_none (by rw [List.length_range]; omega)] at hv; cases hv
theorem Row.there {w : World} {b : Nat} {t : TypeId} {n : Nat} {f : Nat → Value} (h : Row w b t n f) : w.there b 0 n := fun j hj => by
  rw [Nat.zero_add, h.cell hj]
  exact ⟨rfl, h.frozen _⟩
set_option maxHeartbeats 1000000 in
theorem buildListing_any (a b : Option Addr) (nh ca nw cb : Nat) (R : Nat → HRec) (W : Nat → WRec) (w : World) (hh : In w a 3 nh fun i => hc (R i)) (hw : In w b 5 nw fun i => wc (W i)) (hnh : nh ≤ 4096) (hnw : nw ≤ 4096) :
    Calls Try.prog 10 #[.slice a nh ca, .slice b nw cb] w (BPost nh nw R W w) := by
  have Hst := hid (LSt.start w R W)
  have Hh := hid hh
  have Hw := hid hw
  clear hh hw
  go_enter Try.func10, Try.ntmps10
  go_wp2_with fail
  go_loopg [6] nh (fun gk s6 wr => ∃ i : Nat, gk = nh - i ∧ i ≤ nh ∧ s6 = .int .i64 (i : Nat) ∧ ∃ V0, LSt w i 0 R W V0 (.slice none 0 0) wr)
  case atStart => exact ⟨0, rfl, Nat.zero_le _, rfl, _, Hst.out⟩
  case round =>
    obtain ⟨i, rfl, hi, rfl, V0, HL⟩ := hrel
    replace HL := hid HL
    by_cases hlt : i < nh
    · obtain ⟨ba, off, rfl, hba, hcs⟩ := Hh.out (by omega)
      have kc : ∀ w', Below w.heap.size w w' → w'.cell? ⟨ba, off + i * 3, none⟩ = some (.string (R i).nm) ∧ w'.cell? ⟨ba, off + i * 3 + 1, none⟩ = some (.string (R i).sv) ∧ w'.cell? ⟨ba, off + i * 3 + 2, none⟩ = some (.int .i64 (R i).tx) :=
        fun w' hb => ⟨hcs.below hb hba i hlt 0 (by omega), hcs.below hb hba i hlt 1 (by omega), hcs.below hb hba i hlt 2 (by omega)⟩
      have hltI : ((i : Nat) : Int) < (nh : Int) := by omega
      have C22 : ∀ m, Calls Try.prog 22 #[.pointer (some ⟨w.heap.size + 1, 0, none⟩), .string (R i).nm, .string (R i).sv, .int .i64 (R i).tx] (wr.drewN m) (AddPost (w.heap.size + 1) w.heap.size 70 3 i V0 (flat i fun i => hc (R i)) (hc (R i)) (fun V => pair V (.slice none 0 0)) (wr.drewN m)) :=
        fun m => addHeld_any _ _ _ _ _ _ _ _ _ _ (HL.out.drewN m).2.1 (HL.out.drewN m).2.2.1 (HL.out.drewN m).2.2.2.2.size (by omega)
      clear hcs
      go_wp2_with fail
      go_region_held3 (fun w' => w'.cell? ⟨ba, off + i * 3, none⟩ = some (.string (R i).nm) ∧ w'.cell? ⟨ba, off + i * 3 + 1, none⟩ = some (.string (R i).sv) ∧ w'.cell? ⟨ba, off + i * 3 + 2, none⟩ = some (.int .i64 (R i).tx)) (first | exact kc _ HL.out.2.2.2.2 | exact kc _ HL2.2.2.2.2 | exact kc _ (HL.out.drewN _).2.2.2.2) ((go_at_call 22; refine (C22 _).mono ?_; intro e w2 hp; obtain ⟨rfl, V2, HL2⟩ := (HL.out.drewN _).stepH hp))
      replace HL2 := hid HL2
      clear hp
      go_wp2
      go_roundg (nh - (i + 1))
      case measure => omega
      case rel => exact ⟨i + 1, rfl, by omega, by go_num, V2, HL2.out⟩
    · have e : i = nh := by omega
      subst e
      clear hlt hi
      go_wp2_with fail
      go_loopg [7] nw (fun gk s7 wr => ∃ j : Nat, gk = nw - j ∧ j ≤ nw ∧ s7 = .int .i64 (j : Nat) ∧ ∃ V1, LSt w i j R W V0 V1 wr)
      case atStart => exact ⟨0, rfl, Nat.zero_le _, rfl, _, HL.out⟩
      case round =>
        clear HL
        obtain ⟨j, rfl, hj, rfl, V1, HL⟩ := hrel
        replace HL := hid HL
        by_cases hlt : j < nw
        · obtain ⟨ba, off, rfl, hba, hcs⟩ := Hw.out (by omega)
          have kc : ∀ w', Below w.heap.size w w' → w'.cell? ⟨ba, off + j * 5, none⟩ = some (.string (W j).nm) ∧ w'.cell? ⟨ba, off + j * 5 + 1, none⟩ = some (.int .i64 (W j).tx) ∧ w'.cell? ⟨ba, off + j * 5 + 2, none⟩ = some (.int .i64 (W j).od) ∧ w'.cell? ⟨ba, off + j * 5 + 3, none⟩ = some (.int .i64 (W j).rk) ∧ w'.cell? ⟨ba, off + j * 5 + 4, none⟩ = some (.bool (W j).up) :=
            fun w' hb => ⟨hcs.below hb hba j hlt 0 (by omega), hcs.below hb hba j hlt 1 (by omega), hcs.below hb hba j hlt 2 (by omega), hcs.below hb hba j hlt 3 (by omega), hcs.below hb hba j hlt 4 (by omega)⟩
          have hltI : ((j : Nat) : Int) < (nw : Int) := by omega
          have C23 : ∀ m, Calls Try.prog 23 #[.pointer (some ⟨w.heap.size + 1, 0, none⟩), .string (W j).nm, .int .i64 (W j).tx, .int .i64 (W j).od, .int .i64 (W j).rk, .bool (W j).up] (wr.drewN m) (AddPost (w.heap.size + 1) w.heap.size 74 5 j V1 (flat j fun i => wc (W i)) (wc (W j)) (fun V => pair V0 V) (wr.drewN m)) :=
            fun m => addWaiting_any _ _ _ _ _ _ _ _ _ _ _ _ (HL.out.drewN m).2.1 (HL.out.drewN m).2.2.2.1 (HL.out.drewN m).2.2.2.2.size (by omega)
          clear hcs
          go_wp2_with fail
          go_region_held3 (fun w' => w'.cell? ⟨ba, off + j * 5, none⟩ = some (.string (W j).nm) ∧ w'.cell? ⟨ba, off + j * 5 + 1, none⟩ = some (.int .i64 (W j).tx) ∧ w'.cell? ⟨ba, off + j * 5 + 2, none⟩ = some (.int .i64 (W j).od) ∧ w'.cell? ⟨ba, off + j * 5 + 3, none⟩ = some (.int .i64 (W j).rk) ∧ w'.cell? ⟨ba, off + j * 5 + 4, none⟩ = some (.bool (W j).up)) (first | exact kc _ HL.out.2.2.2.2 | exact kc _ HL2.2.2.2.2 | exact kc _ (HL.out.drewN _).2.2.2.2) ((go_at_call 23; refine (C23 _).mono ?_; intro e w2 hp; obtain ⟨rfl, V2, HL2⟩ := (HL.out.drewN _).stepW hp))
          replace HL2 := hid HL2
          clear hp
          go_wp2
          go_roundg (nw - (j + 1))
          case measure => omega
          case rel => exact ⟨j + 1, rfl, by omega, by go_num, V2, HL2.out⟩
        · have e : j = nw := by omega
          subst e
          clear hlt hj
          have hrg : wr.rangeAt (w.heap.size + 1) 0 [V0, V1] := HL.out.2.1.range
          have hth := HL.out.1.there
          have one : ∀ v ∈ [V0, V1], v.oneCell' = true := by
            intro v hv
            rcases List.mem_cons.1 hv with rfl | hv
            · obtain ⟨a, c, e, _⟩ := own_in (f := fun i => hc (R i)) (fun i => rfl) HL.out.2.2.1
              rw [e]; rfl
            · rw [List.mem_singleton] at hv
              subst hv
              obtain ⟨a, c, e, _⟩ := own_in (f := fun i => wc (W i)) (fun i => rfl) HL.out.2.2.2.1
              rw [e]; rfl
          replace one := hid one
          go_wp2_with (first | (refine wpList_load_mid (by rfl) 30 _ rfl (w.heap.size + 1) 0 (by rfl) [V0, V1] _ hrg Try.underlying30 rfl info30 ?_) | (refine wpList_store_mid (by rfl) 30 _ _ rfl w.heap.size 0 #[V0, V1] (by rfl) (by rfl) hth info30 (all_oneCell_toArray one.out) ?_))
          have HR2 : (wr.setCells w.heap.size 0 [V0, V1]).rangeAt w.heap.size 0 [V0, V1] := World.rangeAt_setCells_same wr _ _ _ hth
          refine bodyPost_ret (v := .agg #[V0, V1]) ?_ rfl HL.out.finish
          have hld := run_loadVar_mid (P := Try.prog) (wr.setCells w.heap.size 0 [V0, V1]) w.heap.size 0 30 [V0, V1] _ HR2 Try.underlying30 rfl info30
          exact results_cell Try.results10 _ _ _ _ _ (by rfl) hld
end Go.Proofs.Qxb6612537a.U
