import Derived.Test.Qxb6600065aLeaves
import Derived.Deep.LoopGhost
namespace Go.Proofs.Qxb6600065a.fnPermuteThenInverseRestores
open Go.ChangeShapes Go.WideShapes Go.ChangeAt Go.RowKit Go.Proofs.Qxb6600065a.Plain
set_option linter.unusedVariables false

/-- w' is w but for the blocks of S (and new ones). -/
structure Keeps (S : Nat → Prop) (w w' : World) : Prop where
  os : w'.os = w.os
  tape : w'.tape = w.tape
  output : w'.output = w.output
  size : w.heap.size ≤ w'.heap.size
  block : ∀ k, k < w.heap.size → ¬ S k → w'.heap[k]? = w.heap[k]?
namespace Keeps
variable {S : Nat → Prop} {w w' w'' : World}
theorem refl (S : Nat → Prop) (w : World) : Keeps S w w := ⟨rfl, rfl, rfl, Nat.le_refl _, fun _ _ _ => rfl⟩
theorem trans (h : Keeps S w w') (k : Keeps S w' w'') : Keeps S w w'' :=
  ⟨k.os.trans h.os, k.tape.trans h.tape, k.output.trans h.output, Nat.le_trans h.size k.size, fun i hi hs => (k.block i (Nat.lt_of_lt_of_le hi h.size) hs).trans (h.block i hi hs)⟩
theorem alloc (h : Keeps S w w') (o : Obj) : Keeps S w (w'.alloc o) :=
  h.trans ⟨rfl, rfl, rfl, by simp, fun k hk _ => Below.heap_alloc _ _ _ hk⟩
theorem setCell (h : Keeps S w w') {a : Addr} (ha : S a.block ∨ w.heap.size ≤ a.block) (v : Value) : Keeps S w (w'.setCell a v) :=
  ⟨h.os, h.tape, h.output, by simpa [World.setCell] using h.size, fun k hk hs => (Below.heap_setCell _ _ _ _ (by
    rintro rfl
    rcases ha with ha | ha
    · exact hs ha
    · omega)).trans (h.block k hk hs)⟩
theorem setCells {b : Nat} (ha : S b ∨ w.heap.size ≤ b) : ∀ (vs : List Value) (o : Nat) (w' : World), Keeps S w w' → Keeps S w (w'.setCells b o vs)
  | [], _, _, h => h
  | v :: r, o, w', h => setCells ha r (o + 1) _ (h.setCell (a := ⟨b, o, none⟩) ha v)
theorem drewN (h : Keeps S w w') (n : Nat) : Keeps S w (w'.drewN n) := ⟨h.os, h.tape, h.output, h.size, h.block⟩
theorem of_below (h : Below w.heap.size w w') : Keeps S w w' := ⟨h.os, h.tape, h.output, h.size, fun k hk _ => h.block k hk⟩
theorem row (h : Keeps S w w') {b : Nat} {t : TypeId} {n : Nat} {f : Nat → Value} (r : w.rowIs b t n f) (hs : ¬ S b) : w'.rowIs b t n f := r.of_block (h.block b r.lt hs)
theorem below (h : Keeps S w w') {B : Nat} (hB : B ≤ w.heap.size) (hs : ∀ k, S k → B ≤ k) : Below B w w' :=
  ⟨h.os, h.tape, h.output, h.size, fun k hk => h.block k (by omega) (fun s => by have := hs k s; omega)⟩
theorem more {S' : Nat → Prop} (h : Keeps S w w') (hs : ∀ k, S k → S' k) : Keeps S' w w' := ⟨h.os, h.tape, h.output, h.size, fun k hk n => h.block k hk fun s => n (hs k s)⟩
end Keeps

theorem rowIs_setCells_other {b b' : Nat} {t : TypeId} {n : Nat} {f : Nat → Value} (hne : b ≠ b') : ∀ (vs : List Value) (o : Nat) (w : World), w.rowIs b t n f → (w.setCells b' o vs).rowIs b t n f
  | [], _, _, h => h
  | v :: r, o, w, h => rowIs_setCells_other hne r (o + 1) _ (h.setOther (a := ⟨b', o, none⟩) hne v)

/-- The keys' row: place p i in the i-th key. -/
def KC (p : Nat → Nat) (c : Nat) : Value := if c % 21 = 20 then .int .u32 (p (c / 21)) else .int .u8 0
/-- The holdings' row: at i the holding that was made at g i. -/
def HG (z : Nat → Int) (g : Nat → Nat) (c : Nat) : Value := HC z (g (c / 7)) (c % 7)

theorem KC_at (p : Nat → Nat) (i : Nat) : KC p (i * 21 + 20) = .int .u32 (p i) := by
  unfold KC
  rw [if_pos (by omega), show (i * 21 + 20) / 21 = i by omega]
theorem HG_at (z : Nat → Int) (g : Nat → Nat) (i r : Nat) (hr : r < 7) : HG z g (i * 7 + r) = HC z (g i) r := by
  unfold HG
  rw [show (i * 7 + r) / 7 = i by omega, show (i * 7 + r) % 7 = r by omega]

def hcl (z : Nat → Int) (j : Nat) : List Value := [.string ByteArray.empty, .string ByteArray.empty, .int .i32 j, .int .u32 (z j), .int .i64 0, .int .i64 0, .int .u64 0]

theorem HG_store (z : Nat → Int) (g : Nat → Nat) (i v c : Nat) :
    (if i * 7 ≤ c ∧ c < i * 7 + (hcl z v).length then (hcl z v).getD (c - i * 7) undef else HG z g c) = HG z (upd g i v) c := by
  show (if i * 7 ≤ c ∧ c < i * 7 + 7 then _ else _) = _
  by_cases e : i * 7 ≤ c ∧ c < i * 7 + 7
  · obtain ⟨r, hr, rfl⟩ : ∃ r, r < 7 ∧ c = i * 7 + r := ⟨c - i * 7, by omega, by omega⟩
    rw [if_pos e, HG_at z _ i r hr, upd_self, show i * 7 + r - i * 7 = r by omega]
    match r, hr with
    | 0, _ => rfl
    | 1, _ => rfl
    | 2, _ => rfl
    | 3, _ => rfl
    | 4, _ => rfl
    | 5, _ => rfl
    | 6, _ => rfl
  · rw [if_neg e]
    unfold HG
    rw [upd_other _ _ (by omega)]

theorem KC_store (p : Nat → Nat) (i v c : Nat) : (if c = i * 21 + 20 then Value.int .u32 v else KC p c) = KC (upd p i v) c := by
  by_cases e : c = i * 21 + 20
  · subst e; rw [if_pos rfl, KC_at, upd_self]
  · rw [if_neg e]
    unfold KC
    by_cases e2 : c % 21 = 20
    · rw [if_pos e2, if_pos e2, upd_other _ _ (by omega)]
    · rw [if_neg e2, if_neg e2]

theorem hg_cells {w : World} {b n : Nat} {z : Nat → Int} {g : Nat → Nat} (h : w.rowIs b 40 (n * 7) (HG z g)) (i : Nat) (hi : i < n) :
    w.cell? ⟨b, i * 7, none⟩ = some (.string ByteArray.empty) ∧ w.cell? ⟨b, i * 7 + 1, none⟩ = some (.string ByteArray.empty) ∧ w.cell? ⟨b, i * 7 + 2, none⟩ = some (.int .i32 (g i)) ∧
    w.cell? ⟨b, i * 7 + 3, none⟩ = some (.int .u32 (z (g i))) ∧ w.cell? ⟨b, i * 7 + 4, none⟩ = some (.int .i64 0) ∧ w.cell? ⟨b, i * 7 + 5, none⟩ = some (.int .i64 0) ∧ w.cell? ⟨b, i * 7 + 6, none⟩ = some (.int .u64 0) := by
  have f := fun r (hr : r < 7) => (h.cell (i := i * 7 + r) (by omega)).trans (congrArg some (HG_at z g i r hr))
  exact ⟨f 0 (by omega), f 1 (by omega), f 2 (by omega), f 3 (by omega), f 4 (by omega), f 5 (by omega), f 6 (by omega)⟩

theorem aside_cells (z : Nat → Int) (j : Nat) : ∀ i, i < (#[.string ByteArray.empty, .string ByteArray.empty, .int .i32 j, .int .u32 (z j), .int .i64 0, .int .i64 0, .int .u64 0] : Array Value).size →
    (#[.string ByteArray.empty, .string ByteArray.empty, .int .i32 j, .int .u32 (z j), .int .i64 0, .int .i64 0, .int .u64 0] : Array Value)[i]? = some (HC z j i) := by
  intro i hi
  match i, hi with
  | 0, _ => rfl
  | 1, _ => rfl
  | 2, _ => rfl
  | 3, _ => rfl
  | 4, _ => rfl
  | 5, _ => rfl
  | 6, _ => rfl

theorem beqT {a b : Nat} (h : a = b) : (((a : Nat) : Int) == ((b : Nat) : Int)) = true := by subst h; simp
theorem beqF {a b : Nat} (h : a ≠ b) : (((a : Nat) : Int) == ((b : Nat) : Int)) = false := by
  cases e : (((a : Nat) : Int) == ((b : Nat) : Int))
  · rfl
  · have := eq_of_beq e; omega

def PmPost (hb kb n : Nat) (z : Nat → Int) (g p : Nat → Nat) (w : World) (e : Ending) (w' : World) : Prop :=
  e = .returned (.tuple #[]) ∧ Keeps (fun k => k = hb ∨ k = kb) w w' ∧ w'.rowIs hb 40 (n * 7) (HG z (fun i => g (p i))) ∧ w'.rowIs kb 48 (n * 21) (KC (fun i => i))

def Eq1 (a b : Nat) : Prop := a = b

set_option maxHeartbeats 1000000 in
theorem permute_any (hb kb n : Nat) (z : Nat → Int) (g p : Nat → Nat) (w : World) (hn : n ≤ 65536) (hne : hb ≠ kb) (hH : w.rowIs hb 40 (n * 7) (HG z g)) (hK : w.rowIs kb 48 (n * 21) (KC p)) (hp : IsP n p) :
    Calls Try.prog 18 #[.slice (some ⟨hb, 0, none⟩) n n, .slice (some ⟨kb, 0, none⟩) n n] w (PmPost hb kb n z g p w) := by
  have hlb : hb < w.heap.size := hH.lt
  have hkb : kb < w.heap.size := hK.lt
  have HH : Hid (w.rowIs hb 40 (n * 7) (HG z g)) := hH
  have HK : Hid (w.rowIs kb 48 (n * 21) (KC p)) := hK
  have HP : Hid (IsP n p) := hp
  clear hH hK hp
  go_enter Try.func18, Try.ntmps18
  go_wp2
  go_loopg [10] n (fun gk s wr => ∃ (k : Nat) (q h : Nat → Nat), k ≤ n ∧ gk = n - k ∧ s = .int .i64 k ∧ wr.rowIs hb 40 (n * 7) (HG z h) ∧ wr.rowIs kb 48 (n * 21) (KC q) ∧ Keeps (fun k => k = hb ∨ k = kb) w wr ∧ Outer n (fun i => g (p i)) k q h)
  case atStart => exact ⟨0, p, g, Nat.zero_le _, rfl, rfl, HH.out, HK.out, Keeps.refl _ _, outer_first HP.out⟩
  case round =>
    obtain ⟨k, q, h, hk, rfl, rfl, hrH, hrK, hkp, hO⟩ := hrel
    have HO : Hid (Outer n (fun i => g (p i)) k q h) := hO
    have HrH : Hid (wr.rowIs hb 40 (n * 7) (HG z h)) := hrH
    have HrK : Hid (wr.rowIs kb 48 (n * 21) (KC q)) := hrK
    have HKp : Hid (Keeps (fun k => k = hb ∨ k = kb) w wr) := hkp
    clear hO hkp
    have hsz : w.heap.size ≤ wr.heap.size := HKp.out.size
    by_cases hlt : k < n
    · have ck : wr.cell? ⟨kb, k * 21 + 20, none⟩ = some (.int .u32 (q k)) := (hrK.cell (by omega)).trans (congrArg some (KC_at q k))
      have hqk : q k < n := HO.out.perm.1 k hlt
      by_cases hq : q k = k
      · have HQ : Hid (q k = k) := hq
        have hqb := beqT hq
        clear hrH hrK hq
        go_wp2
        go_roundg (n - (k + 1))
        case measure => omega
        case rel => exact ⟨k + 1, q, h, by omega, rfl, by go_num, HrH.out, HrK.out, HKp.out, outer_skip HO.out HQ.out⟩
      · have hq' : (((q k : Nat) : Int) == (k : Int)) = false := beqF hq
        have HQ : Hid (q k ≠ k) := hq
        clear hq
        obtain ⟨c0, c1, c2, c3, c4, c5, c6⟩ := hg_cells hrH k hlt
        clear hrH hrK
        go_wp2
        clear c0 c1 c2 c3 c4 c5 c6 ck hq' hqk
        obtain ⟨wo, hwo⟩ : ∃ wo, wo = wr := ⟨_, rfl⟩
        subst hwo
        go_loopg [6] (open_ q n) (fun gk s wr => ∃ (t : Nat) (q' h' : Nat → Nat), s = .int .i64 t ∧ gk = open_ q' n ∧ wr.rowIs hb 40 (n * 7) (HG z h') ∧ wr.rowIs kb 48 (n * 21) (KC q') ∧ wr.rowIs wo.heap.size 40 7 (HC z (h k)) ∧ Keeps (fun k => k = hb ∨ k = kb) w wr ∧ Inner n (fun i => g (p i)) k (h k) t q' h')
        case atStart =>
          exact ⟨k, q, h, rfl, rfl, HrH.out.alloc _, HrK.out.alloc _, World.rowIs_alloc _ _ _ _ (aside_cells z (h k)), HKp.out.alloc _, inner_start HO.out hlt HQ.out⟩
        case round =>
          obtain ⟨t, q', h', rfl, rfl, hrH, hrK, hrA, hkp, hI⟩ := hrel
          have GI : Hid (Inner n (fun i => g (p i)) k (h k) t q' h') := hI
          have GH : Hid (wr.rowIs hb 40 (n * 7) (HG z h')) := hrH
          have GK : Hid (wr.rowIs kb 48 (n * 21) (KC q')) := hrK
          have GA : Hid (wr.rowIs wo.heap.size 40 7 (HC z (h k))) := hrA
          have GKp : Hid (Keeps (fun k => k = hb ∨ k = kb) w wr) := hkp
          have htn : t < n := hI.to_lt
          have hqt : q' t < n := hI.lt t htn
          have hkh : kb ≠ hb := Ne.symm hne
          have ck : wr.cell? ⟨kb, t * 21 + 20, none⟩ = some (.int .u32 (q' t)) := (hrK.cell (by omega)).trans (congrArg some (KC_at q' t))
          have fk := hrK.frozen
          have fh := hrH.frozen
          obtain ⟨d0, d1, d2, d3, d4, d5, d6⟩ := hg_cells hrH t htn
          clear hI hkp
          by_cases hq : q' t = k
          · have hqb : (((q' t : Nat) : Int) == (k : Int)) = true := beqT hq
            have HQ2 : Hid (q' t = k) := hq
            have a0 : wr.cell? ⟨wo.heap.size, 0, none⟩ = some (.string ByteArray.empty) := hrA.cell (by omega)
            have a1 : wr.cell? ⟨wo.heap.size, 1, none⟩ = some (.string ByteArray.empty) := hrA.cell (by omega)
            have a2 : wr.cell? ⟨wo.heap.size, 2, none⟩ = some (.int .i32 (h k)) := hrA.cell (by omega)
            have a3 : wr.cell? ⟨wo.heap.size, 3, none⟩ = some (.int .u32 (z (h k))) := hrA.cell (by omega)
            have a4 : wr.cell? ⟨wo.heap.size, 4, none⟩ = some (.int .i64 0) := hrA.cell (by omega)
            have a5 : wr.cell? ⟨wo.heap.size, 5, none⟩ = some (.int .i64 0) := hrA.cell (by omega)
            have a6 : wr.cell? ⟨wo.heap.size, 6, none⟩ = some (.int .u64 0) := hrA.cell (by omega)
            have n1 : kb ≠ wo.heap.size := by omega
            clear hq hrH hrK hrA
            go_wp2
            go_roundg (n - (k + 1))
            case measure => omega
            case rel =>
              refine ⟨k + 1, upd q' t t, upd h' t (h k), by omega, rfl, by go_num, ?_, ?_, ?_, inner_end GI.out hlt HQ2.out⟩
              · exact (rowIs_setCells (hcl z (h k)) (t * 7) _ _ (GH.out.setOther (a := ⟨kb, t * 21 + 20, none⟩) hne _)).congr (fun c _ => HG_store z h' t (h k) c)
              · exact rowIs_setCells_other hkh (hcl z (h k)) (t * 7) _ ((GK.out.set (t * 21 + 20) (.int .u32 t)).congr (fun c _ => KC_store q' t t c))
              · exact Keeps.setCells (.inl (.inl rfl)) (hcl z (h k)) (t * 7) _ (GKp.out.setCell (.inl (.inr rfl)) _)
          · have hqb : (((q' t : Nat) : Int) == (k : Int)) = false := beqF hq
            have HQ2 : Hid (q' t ≠ k) := hq
            obtain ⟨b0, b1, b2, b3, b4, b5, b6⟩ := hg_cells hrH (q' t) hqt
            clear hq hrH hrK hrA
            go_wp2
            go_roundg (open_ (upd q' t t) n)
            case measure =>
              have := open_upd q' t GI.out.moves n htn
              omega
            case rel =>
              refine ⟨q' t, upd q' t t, upd h' t (h' (q' t)), rfl, rfl, ?_, ?_, ?_, ?_, inner_step GI.out hlt HQ2.out⟩
              · exact (rowIs_setCells (hcl z (h' (q' t))) (t * 7) _ _ (GH.out.setOther (a := ⟨kb, t * 21 + 20, none⟩) hne _)).congr (fun c _ => HG_store z h' t _ c)
              · exact rowIs_setCells_other hkh (hcl z (h' (q' t))) (t * 7) _ ((GK.out.set (t * 21 + 20) (.int .u32 t)).congr (fun c _ => KC_store q' t t c))
              · exact rowIs_setCells_other (by omega) (hcl z (h' (q' t))) (t * 7) _ (GA.out.setOther (a := ⟨kb, t * 21 + 20, none⟩) (by show wo.heap.size ≠ kb; omega) _)
              · exact Keeps.setCells (.inl (.inl rfl)) (hcl z (h' (q' t))) (t * 7) _ (GKp.out.setCell (.inl (.inr rfl)) _)
    · have hkn : k = n := by omega
      clear hrH hrK
      go_wp2
      go_end0
      subst hkn
      exact ⟨rfl, HKp.out, HrH.out.congr (fun c hc => by unfold HG; rw [(outer_last HO.out (c / 7) (by omega)).2]), HrK.out.congr (fun c hc => by
        unfold KC
        by_cases e : c % 21 = 20
        · rw [if_pos e, if_pos e, (outer_last HO.out (c / 21) (by omega)).1]
        · rw [if_neg e, if_neg e])⟩

end Go.Proofs.Qxb6600065a.fnPermuteThenInverseRestores
