import Derived.Test.Qxb6612537aGFacts
import Derived.Test.Qxb6612537aWait
import Derived.Test.Qxb6612537aMax
/-! WHAT gather CARRIES. -/
namespace Go.Proofs.Qxb6612537a.U
open Go.RowKit Go.Proofs.Qxb6612537a.Plain
set_option linter.unusedVariables false

/-- Objects that gather's steps leave alone. -/
def Fix : Obj → Prop
  | .cells _ t _ => t ≠ 60 ∧ t ≠ 77 ∧ t ≠ 85
  | .map _ _ => False
  | _ => True
structure FK (base : Nat) (w w' : World) : Prop where
  bl : Below base w w'
  fx : ∀ (b : Nat) (o : Obj), w.heap[b]? = some o → Fix o → w'.heap[b]? = some o
theorem FK.refl (base : Nat) (w : World) : FK base w w := ⟨Below.refl _ _, fun _ _ h _ => h⟩
theorem FK.trans {base : Nat} {w w' w'' : World} (h : FK base w w') (k : FK base w' w'') : FK base w w'' := ⟨h.bl.trans k.bl, fun b o hb hf => k.fx b o (h.fx b o hb hf) hf⟩
theorem FK.of_keeps {S : Nat → Prop} {base : Nat} {w w' : World} (k : Keeps S w w') (hb : base ≤ w.heap.size) (hs : ∀ b, S b → base ≤ b ∧ ∀ o, w.heap[b]? = some o → ¬ Fix o) : FK base w w' :=
  ⟨k.below hb fun b h => (hs b h).1, fun b o hbo hf => (k.block b (Array.getElem?_eq_some_iff.1 hbo).1 fun h => (hs b h).2 o hbo hf).trans hbo⟩
theorem FK.of_keeps0 {base : Nat} {w w' : World} (k : Keeps (fun _ => False) w w') (hb : base ≤ w.heap.size) : FK base w w' := .of_keeps k hb fun _ h => h.elim
theorem Row.fk {base : Nat} {w w' : World} {b : Nat} {t : TypeId} {n : Nat} {f : Nat → Value} (h : Row w b t n f) (k : FK base w w') (ht : t ≠ 60 ∧ t ≠ 77 ∧ t ≠ 85) : Row w' b t n f := by
  obtain ⟨c, hb, hn, hc⟩ := h
  exact ⟨c, k.fx b _ hb ht, hn, hc⟩
theorem own_fk {base base' : Nat} {w w' : World} {e : TypeId} {size n : Nat} {v : Value} {xs : List Value} (h : w.ownsRow base' e size v n xs) (k : FK base w w') (ht : e ≠ 60 ∧ e ≠ 77 ∧ e ≠ 85) : w'.ownsRow base' e size v n xs := by
  obtain ⟨hl, h | ⟨g, cap, cur, hv, hb, hg, hr⟩⟩ := h
  · exact ⟨hl, .inl h⟩
  · exact ⟨hl, .inr ⟨g, cap, cur, hv, hb, k.fx g _ hg ht, hr⟩⟩
theorem own_not_fix {base : Nat} {w : World} {e : TypeId} {size n : Nat} {v : Value} {xs : List Value} (h : w.ownsRow base e size v n xs) (ht : ¬ (e ≠ 60 ∧ e ≠ 77 ∧ e ≠ 85)) {b : Nat} (hb : v.ownBlock = some b) : base ≤ b ∧ ∀ o, w.heap[b]? = some o → ¬ Fix o := by
  obtain ⟨hl, h | ⟨g, cap, cur, hv, hb', hg, hr⟩⟩ := h
  · rw [h.1] at hb; cases hb
  · rw [hv] at hb
    have : g = b := by simpa [Value.ownBlock] using hb
    subst this
    refine ⟨hb', fun o ho => ?_⟩
    rw [hg] at ho
    injection ho with ho
    rw [← ho]; exact ht
theorem row_not_fix {w : World} {b : Nat} {t : TypeId} {n : Nat} {f : Nat → Value} (h : Row w b t n f) (ht : ¬ (t ≠ 60 ∧ t ≠ 77 ∧ t ≠ 85)) : ∀ o, w.heap[b]? = some o → ¬ Fix o := fun o ho => by
  obtain ⟨c, hb, _⟩ := h
  rw [hb] at ho
  injection ho with ho
  rw [← ho]; exact ht
theorem map_not_fix {w : World} {b n : Nat} {m : Int → Option Int} (h : MapIs w b n m) : ∀ o, w.heap[b]? = some o → ¬ Fix o := fun o ho => by
  obtain ⟨D, ⟨es, clock, hb, _⟩, _⟩ := h
  rw [hb] at ho
  injection ho with ho
  rw [← ho]; exact fun h => h
theorem own_ne_map {base : Nat} {w : World} {e : TypeId} {size n : Nat} {v : Value} {xs : List Value} {b k : Nat} {m : Int → Option Int} (h : w.ownsRow base e size v n xs) (hm : MapIs w b k m) : v.ownBlock ≠ some b := by
  intro hb
  obtain ⟨D, ⟨es, clock, hbb, _⟩, _⟩ := hm
  obtain ⟨_, h | ⟨g, cap, cur, hv, _, hg, _⟩⟩ := h
  · rw [h.1] at hb; cases hb
  · rw [hv] at hb
    have : g = b := by simpa [Value.ownBlock] using hb
    subst this
    rw [hbb] at hg; cases hg
/-- What gather works on. -/
structure GC where
  w0 : World
  base : Nat
  base0 : Nat
  WB : Nat
  XB : Nat
  LB : Nat
  FB : Nat
  GB : Nat
  MB : Nat
  nh : Nat
  nw : Nat
  ch : Nat
  cw : Nat
  hn : Nat
  ah : Option Addr
  aw : Option Addr
  R : Nat → HRec
  W : Nat → WRec
  H : Value
  Bk : Value
  hxs : List Value
structure Env (G : GC) (w : World) : Prop where
  xb : Row w G.XB 32 1 (fun _ => .pointer (some ⟨G.WB, 0, none⟩))
  lb : Row w G.LB 30 2 (pair (.slice G.ah G.nh G.ch) (.slice G.aw G.nw G.cw))
  fb : Row w G.FB 76 1 (fun _ => .func (.func 33) #[] #[.pointer (some ⟨G.XB, 0, none⟩)])
  gb : Row w G.GB 78 1 (fun _ => .func (.func 35) #[] #[.pointer (some ⟨G.XB, 0, none⟩)])
  oh : w.ownsRow G.base0 70 3 (.slice G.ah G.nh G.ch) G.nh (flat G.nh fun i => hc (G.R i))
  ow : w.ownsRow G.base0 74 5 (.slice G.aw G.nw G.cw) G.nw (flat G.nw fun i => wc (G.W i))
  bl : Below G.base G.w0 w
  hb : G.base ≤ w.heap.size
structure Var (G : GC) (V : Value) (n : Nat) (m : Int → Option Int) (cnt : Nat) (xs : List Value) (w : World) : Prop where
  st : Row w G.WB 60 4 (four (.map (some G.MB)) G.H V G.Bk)
  mp : MapIs w G.MB n m
  own : w.ownsRow G.base 77 1 V cnt xs
  oH : w.ownsRow G.base 85 2 G.H G.hn G.hxs
  hW : G.base ≤ G.WB
  hM : G.base ≤ G.MB
theorem Env.fk {G : GC} {w w' : World} (h : Env G w) (k : FK G.base w w') : Env G w' :=
  ⟨h.xb.fk k (by decide), h.lb.fk k (by decide), h.fb.fk k (by decide), h.gb.fk k (by decide), own_fk h.oh k (by decide), own_fk h.ow k (by decide), h.bl.trans k.bl, Nat.le_trans h.hb k.bl.size⟩
theorem Var.keeps0 {G : GC} {V : Value} {n : Nat} {m : Int → Option Int} {cnt : Nat} {xs : List Value} {w w' : World} (h : Var G V n m cnt xs w) (k : Keeps (fun _ => False) w w') : Var G V n m cnt xs w' :=
  ⟨h.st.keeps k (fun h => h), h.mp.keeps k (fun h => h), own_keeps h.own k (fun _ _ h => h), own_keeps h.oH k (fun _ _ h => h), h.hW, h.hM⟩
/-- A step of hold. -/
theorem Var.hold {G : GC} {V : Value} {n n' : Nat} {m m' : Int → Option Int} {cnt : Nat} {xs : List Value} {w w' : World} (h : Var G V n m cnt xs w) (hb : G.base ≤ w.heap.size) (k : HSt w G.WB G.XB G.MB G.H V G.Bk n' m' w') : Var G V n' m' cnt xs w' ∧ FK G.base w w' := by
  refine ⟨⟨k.st, k.mp, own_keeps h.own k.kp ?_, own_keeps h.oH k.kp ?_, h.hW, h.hM⟩, .of_keeps k.kp hb ?_⟩
  · rintro b hb rfl; exact own_ne_map h.own h.mp hb
  · rintro b hb rfl; exact own_ne_map h.oH h.mp hb
  · rintro b rfl; exact ⟨h.hM, map_not_fix h.mp⟩
/-- A step of wait. -/
theorem Var.wait {G : GC} {V V' : Value} {n : Nat} {m : Int → Option Int} {cnt cnt' : Nat} {xs xs' : List Value} {w w' : World} (h : Var G V n m cnt xs w) (hb : G.base ≤ w.heap.size) (k : ASt w G.base G.WB G.XB (.map (some G.MB)) G.H G.Bk V V' cnt' xs' w') : Var G V' n m cnt' xs' w' ∧ FK G.base w w' := by
  refine ⟨⟨k.st, h.mp.keeps k.kp ?_, k.own, own_keeps h.oH k.kp ?_, h.hW, h.hM⟩, .of_keeps k.kp hb ?_⟩
  · rintro (e | e)
    · exact h.mp.row_ne h.st e.symm
    · exact own_ne_map h.own h.mp e
  · rintro b hb (rfl | e)
    · exact own_ne h.oH h.st (by decide) hb
    · exact own_apart h.own h.oH (by decide) e hb
  · rintro b (rfl | e)
    · exact ⟨h.hW, row_not_fix h.st (by decide)⟩
    · exact own_not_fix h.own (by decide) e
theorem own_sl2 {w : World} {base : Nat} {e : TypeId} {size n c : Nat} {a : Option Addr} {f : Nat → List Value} (hf : ∀ i, (f i).length = size) (h : w.ownsRow base e size (.slice a n c) n (flat n f)) : Sl2 w a n c size f ∧ c ≤ 9223372036854775807 := by
  obtain ⟨a', c', hv, hnc, hh⟩ := own_in hf h
  rcases h.2 with ⟨e1, e2⟩ | ⟨g, cap, cur, hv2, hb, hg, hn, hcap, hsz, ht⟩
  · injection e1 with e1 e2 e3
    subst e1; subst e3
    exact ⟨.inl ⟨rfl, e2, rfl⟩, by omega⟩
  · injection hv2 with h1 h2 h3
    subst h1; subst h3
    refine ⟨.inr ⟨g, 0, rfl, hn, (Array.getElem?_eq_some_iff.1 hg).1, ?_⟩, by unfold maxLen at hcap; omega⟩
    by_cases h0 : 0 < n
    · obtain ⟨b, hb1, _, _, _, hcs⟩ := hh h0
      injection hv with h1 h2 h3
      rw [← h1] at hb1
      injection hb1 with hb1
      injection hb1 with hb1
      subst hb1
      exact hcs
    · intro i hi; omega
/-- A list of different numbers below n. -/
theorem nodup_le : ∀ (n : Nat) (l : List Nat), l.Nodup → (∀ x, x ∈ l → x < n) → l.length ≤ n
  | 0, l, _, h => by
    cases l with
    | nil => simp
    | cons x l => exact absurd (h x (by simp)) (by omega)
  | n + 1, l, hd, h => by
    by_cases hm : n ∈ l
    · have h1 := nodup_le n (l.erase n) (hd.erase n) fun x hx => by
        have hx1 := h x (List.mem_of_mem_erase hx)
        have hx2 : x ≠ n := by
          rintro rfl
          exact hd.not_mem_erase hx
        omega
      rw [List.length_erase_of_mem hm] at h1
      have := List.length_pos_of_mem hm
      omega
    · have h1 := nodup_le n l hd fun x hx => by
        have := h x hx
        have : x ≠ n := fun e => hm (e ▸ hx)
        omega
      omega
/-- What the map holds when the names of P have been gone through. -/
def PH (R : Nat → HRec) (nh : Nat) (P : Nm → Prop) (n : Nat) (m : Int → Option Int) : Prop :=
  ∃ L : List Nat, L.Nodup ∧ (∀ i, i ∈ L ↔ i < nh ∧ P (By (R i).nm)) ∧ n = L.length ∧ IsMax R (fun i => i < nh ∧ P (By (R i).nm)) m
def ptrAt (aw : Option Addr) (i : Nat) : Value := .pointer (match aw with
  | some a => some ⟨a.block, a.off + i * 5, none⟩
  | none => none)
def PW (W : Nat → WRec) (nw : Nat) (aw : Option Addr) (P : Nm → Prop) (cnt : Nat) (xs : List Value) : Prop :=
  ∃ L : List Nat, L.Nodup ∧ (∀ i, i ∈ L ↔ i < nw ∧ P (By (W i).nm)) ∧ cnt = L.length ∧ xs = L.map (ptrAt aw)
theorem PH.zero (R : Nat → HRec) (nh : Nat) : PH R nh (fun _ => False) 0 (fun _ => none) := ⟨[], by simp, by simp, rfl, (IsMax.empty R).congr (by simp)⟩
theorem PW.zero (W : Nat → WRec) (nw : Nat) (aw : Option Addr) : PW W nw aw (fun _ => False) 0 [] := ⟨[], by simp, by simp, rfl, rfl⟩
theorem PH.le {R : Nat → HRec} {nh : Nat} {P : Nm → Prop} {n : Nat} {m : Int → Option Int} (h : PH R nh P n m) : n ≤ nh := by
  obtain ⟨L, h1, h2, h3, _⟩ := h
  rw [h3]; exact nodup_le nh L h1 fun x hx => ((h2 x).1 hx).1
theorem PW.le {W : Nat → WRec} {nw : Nat} {aw : Option Addr} {P : Nm → Prop} {cnt : Nat} {xs : List Value} (h : PW W nw aw P cnt xs) : cnt ≤ nw := by
  obtain ⟨L, h1, h2, h3, _⟩ := h
  rw [h3]; exact nodup_le nw L h1 fun x hx => ((h2 x).1 hx).1
theorem more_run {L : List Nat} {n i j : Nat} {P Q : Nm → Prop} {nm : Nat → Nm} (hd : L.Nodup) (hL : ∀ k, k ∈ L ↔ k < n ∧ P (nm k)) (hij : i ≤ j) (hj : j ≤ n) (hrun : ∀ k, k < n → ((i ≤ k ∧ k < j) ↔ Q (nm k))) (hdis : ∀ x, P x → ¬ Q x) :
    (L ++ List.range' i (j - i)).Nodup ∧ (∀ k, k ∈ L ++ List.range' i (j - i) ↔ k < n ∧ (P (nm k) ∨ Q (nm k))) := by
  have hr : ∀ k, k ∈ List.range' i (j - i) ↔ k < n ∧ Q (nm k) := fun k => by
    rw [List.mem_range'_1]
    constructor
    · intro h
      have : k < n := by omega
      exact ⟨this, (hrun k this).1 ⟨h.1, by omega⟩⟩
    · rintro ⟨h1, h2⟩
      have := (hrun k h1).2 h2
      omega
  refine ⟨?_, fun k => ?_⟩
  · rw [List.nodup_append]
    refine ⟨hd, List.nodup_range', fun a ha b hb e => ?_⟩
    subst e
    exact hdis _ ((hL a).1 ha).2 ((hr a).1 hb).2
  · rw [List.mem_append, hL, hr]
    constructor
    · rintro (⟨a, b⟩ | ⟨a, b⟩)
      · exact ⟨a, .inl b⟩
      · exact ⟨a, .inr b⟩
    · rintro ⟨a, b | b⟩
      · exact .inl ⟨a, b⟩
      · exact .inr ⟨a, b⟩
theorem PH.more {R : Nat → HRec} {nh : Nat} {P Q : Nm → Prop} {n : Nat} {m : Int → Option Int} (h : PH R nh P n m) {i j : Nat} (hij : i ≤ j) (hj : j ≤ nh) (hrun : ∀ k, k < nh → ((i ≤ k ∧ k < j) ↔ Q (By (R k).nm))) (hdis : ∀ x, P x → ¬ Q x) :
    PH R nh (fun x => P x ∨ Q x) (n + (j - i)) (holdN (fun k => R (i + k)) m (j - i)) := by
  obtain ⟨L, h1, h2, h3, h4⟩ := h
  obtain ⟨a1, a2⟩ := more_run (nm := fun k => By (R k).nm) h1 h2 hij hj hrun hdis
  refine ⟨_, a1, a2, by rw [List.length_append, List.length_range', h3], (h4.run i (j - i)).congr fun k => ?_⟩
  constructor
  · rintro (⟨h1, h2⟩ | h1)
    · exact ⟨h1, .inl h2⟩
    · have : k < nh := by omega
      exact ⟨this, .inr ((hrun k this).1 (by omega))⟩
  · rintro ⟨h1, h2 | h2⟩
    · exact .inl ⟨h1, h2⟩
    · have := (hrun k h1).2 h2
      exact .inr (by omega)
theorem ptrs_map (b off i : Nat) : ∀ n, ptrs b (off + i * 5) n = (List.range' i n).map (ptrAt (some ⟨b, off, none⟩))
  | 0 => rfl
  | n + 1 => by
    rw [ptrs_succ, ptrs_map b off i n, List.range'_concat, List.map_append]
    simp only [List.map_cons, List.map_nil, ptrAt]
    rw [show off + i * 5 + n * 5 = off + (i + 1 * n) * 5 by omega]
theorem PW.more {W : Nat → WRec} {nw : Nat} {aw : Option Addr} {P Q : Nm → Prop} {cnt : Nat} {xs : List Value} (h : PW W nw aw P cnt xs) {i j : Nat} (hij : i ≤ j) (hj : j ≤ nw) (hrun : ∀ k, k < nw → ((i ≤ k ∧ k < j) ↔ Q (By (W k).nm))) (hdis : ∀ x, P x → ¬ Q x) {ys : List Value} (hys : ys = (List.range' i (j - i)).map (ptrAt aw)) :
    PW W nw aw (fun x => P x ∨ Q x) (cnt + (j - i)) (xs ++ ys) := by
  obtain ⟨L, h1, h2, h3, h4⟩ := h
  obtain ⟨a1, a2⟩ := more_run (nm := fun k => By (W k).nm) h1 h2 hij hj hrun hdis
  exact ⟨_, a1, a2, by rw [List.length_append, List.length_range', h3], by rw [h4, hys, List.map_append]⟩
/-- The whole state. -/
def GS (G : GC) (P Q : Nm → Prop) (w : World) : Prop := ∃ V n m cnt xs, Env G w ∧ Var G V n m cnt xs w ∧ PH G.R G.nh P n m ∧ PW G.W G.nw G.aw Q cnt xs
theorem GS.keeps0 {G : GC} {P Q : Nm → Prop} {w w' : World} (h : GS G P Q w) (k : Keeps (fun _ => False) w w') : GS G P Q w' ∧ FK G.base w w' := by
  obtain ⟨V, n, m, cnt, xs, h1, h2, h3, h4⟩ := h
  have hk := FK.of_keeps0 k h1.hb
  exact ⟨⟨V, n, m, cnt, xs, h1.fk hk, h2.keeps0 k, h3, h4⟩, hk⟩
/-- Premises on the listing. -/
structure GOk (G : GC) : Prop where
  nh : G.nh ≤ 4096
  nw : G.nw ≤ 4096
  ash : Asc (fun i => By (G.R i).nm) G.nh
  asw : Asc (fun i => By (G.W i).nm) G.nw
  hs : HSmall G.R G.nh
  ws : WSmall G.W G.nw
  tx : ∀ i, i < G.nh → (Lit.int .i64 (G.R i).tx).wf = true
/-- on, and then hold. -/
theorem GS.on33 {G : GC} {P Q Q2 : Nm → Prop} {w w2 : World} {e : Ending} (h : GS G P Q2 w) (ok : GOk G) (hdis : ∀ x, P x → ¬ Q x) (hon : OnPost G.ah G.nh 3 (fun k => Q (By (G.R k).nm)) w e w2) :
    ∃ A N C, e = .returned (.slice A N C) ∧ GS G P Q2 w2 ∧ FK G.base w w2 ∧ ∀ k, Calls Try.prog 33 #[.slice A N C, .pointer (some ⟨G.XB, 0, none⟩)] (w2.drewN k) (fun e w' => e = .returned (.tuple #[]) ∧ GS G (fun x => P x ∨ Q x) Q2 w' ∧ FK G.base w2 w') := by
  obtain ⟨i, j, A, C, hij, hj, hC, hrun, rfl, hA, hb⟩ := hon
  have k0 : Keeps (fun _ => False) w w2 := .of_below hb
  obtain ⟨g2, fk2⟩ := h.keeps0 k0
  refine ⟨A, j - i, C, rfl, g2, fk2, fun k => ?_⟩
  have k1 : Keeps (fun _ => False) w2 (w2.drewN k) := (Keeps.refl _ w2).drewN k
  obtain ⟨g3, fk3⟩ := g2.keeps0 k1
  obtain ⟨V, n, m, cnt, xs, h1, h2, h3, h4⟩ := g3
  have hin : In (w2.drewN k) A 3 (j - i) fun q => hc (G.R (i + q)) := fun h0 => by
    obtain ⟨b, off, ha, hA'⟩ := hA (by omega)
    rcases (own_sl2 (size := 3) (f := fun i => hc (G.R i)) (fun _ => rfl) h1.oh).1 with ⟨e1, _⟩ | ⟨b', off', ha', _, hlt, hcs⟩
    · rw [ha] at e1; cases e1
    · rw [ha] at ha'
      injection ha' with ha'
      injection ha' with e1 e2
      subst e1; subst e2
      refine ⟨b, off + i * 3, hA', hlt, fun q hq r hr => ?_⟩
      have := hcs (i + q) (by omega) r hr
      rwa [show off + (i + q) * 3 + r = off + i * 3 + q * 3 + r by omega] at this
  refine (hold33_any G.WB G.XB G.MB 0 0 (j - i) C n A G.H V G.Bk m (fun q => G.R (i + q)) (w2.drewN k) hin (by have := ok.nh; omega) (by have := h3.le; have := ok.nh; omega) (fun q hq => ok.tx _ (by omega)) ⟨h2.st, h1.xb, h2.mp, Keeps.refl _ _⟩).mono ?_
  rintro e w' ⟨rfl, hst⟩
  obtain ⟨v1, f1⟩ := h2.hold h1.hb hst
  exact ⟨rfl, ⟨V, _, _, cnt, xs, h1.fk f1, v1, h3.more hij hj hrun hdis, h4⟩, fk3.trans f1⟩
/-- on, and then wait. -/
theorem GS.on35 {G : GC} {P Q Q2 : Nm → Prop} {w w2 : World} {e : Ending} (h : GS G Q2 P w) (ok : GOk G) (hdis : ∀ x, P x → ¬ Q x) (hon : OnPost G.aw G.nw 5 (fun k => Q (By (G.W k).nm)) w e w2) :
    ∃ A N C, e = .returned (.slice A N C) ∧ GS G Q2 P w2 ∧ FK G.base w w2 ∧ ∀ k, Calls Try.prog 35 #[.slice A N C, .pointer (some ⟨G.XB, 0, none⟩)] (w2.drewN k) (fun e w' => e = .returned (.tuple #[]) ∧ GS G Q2 (fun x => P x ∨ Q x) w' ∧ FK G.base w2 w') := by
  obtain ⟨i, j, A, C, hij, hj, hC, hrun, rfl, hA, hb⟩ := hon
  have k0 : Keeps (fun _ => False) w w2 := .of_below hb
  obtain ⟨g2, fk2⟩ := h.keeps0 k0
  refine ⟨A, j - i, C, rfl, g2, fk2, fun k => ?_⟩
  have k1 : Keeps (fun _ => False) w2 (w2.drewN k) := (Keeps.refl _ w2).drewN k
  obtain ⟨g3, fk3⟩ := g2.keeps0 k1
  obtain ⟨V, n, m, cnt, xs, h1, h2, h3, h4⟩ := g3
  by_cases h0 : i < j
  · obtain ⟨b, off, ha, hA'⟩ := hA h0
    refine (wait35_any G.base G.WB G.XB b (off + i * 5) (j - i) C cnt A (.map (some G.MB)) G.H G.Bk V xs (w2.drewN k) (fun _ => hA') (by have := ok.nw; omega) (by have := h4.le; have := ok.nw; omega) ⟨h2.st, h1.xb, h2.own, Keeps.refl _ _, fun b hb => .inl hb, h1.hb⟩).mono ?_
    rintro e w' ⟨rfl, V', hst⟩
    obtain ⟨v1, f1⟩ := h2.wait h1.hb hst
    exact ⟨rfl, ⟨V', _, _, _, _, h1.fk f1, v1, h3, h4.more hij hj hrun hdis (by rw [ptrs_map, ha])⟩, fk3.trans f1⟩
  · have e0 : j - i = 0 := by omega
    rw [e0] at hC ⊢
    refine (wait35_any G.base G.WB G.XB 0 0 0 C cnt A (.map (some G.MB)) G.H G.Bk V xs (w2.drewN k) (fun h => absurd h (by omega)) (by omega) (by have := h4.le; have := ok.nw; omega) ⟨h2.st, h1.xb, h2.own, Keeps.refl _ _, fun b hb => .inl hb, h1.hb⟩).mono ?_
    rintro e w' ⟨rfl, V', hst⟩
    obtain ⟨v1, f1⟩ := h2.wait h1.hb hst
    refine ⟨rfl, ⟨V', _, _, _, _, h1.fk f1, v1, h3, ?_⟩, fk3.trans f1⟩
    have := h4.more hij hj hrun hdis (ys := []) (by rw [e0]; rfl)
    rw [e0] at this
    simpa [ptrs] using this
end Go.Proofs.Qxb6612537a.U
