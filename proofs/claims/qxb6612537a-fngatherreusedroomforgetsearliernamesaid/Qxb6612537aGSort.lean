import Derived.Test.Qxb6612537aSortL
import Derived.Test.Qxb6612537aGSt
import Derived.Test.Qxb6612537aOrd
import Derived.Lib.OwnBridge
/-! slices.SortFunc over the pointers to the waiting records. -/
namespace Go.Proofs.Qxb6612537a.U
open Go.RowKit Go.Proofs.Qxb6612537a.Plain Go.Lib Go.Sort
set_option linter.unusedVariables false

def fenc (aw : Option Addr) (q : Nat) (x : Fin (q + 1)) : Value := ptrAt aw x.val
def fcf (W : Nat → WRec) (q : Nat) (x y : Fin (q + 1)) : Int := cmpI (W x.val).od (W y.val).od
theorem flt (W : Nat → WRec) (q : Nat) (x y : Fin (q + 1)) : ltOf (fcf W q) x y = decide ((W x.val).od < (W y.val).od) := by
  unfold ltOf fcf cmpI
  by_cases h1 : (W x.val).od < (W y.val).od
  · simp [h1]
  · by_cases h2 : (W y.val).od < (W x.val).od <;> simp [h1, h2]
theorem fswo (W : Nat → WRec) (q : Nat) : SWO (ltOf (fcf W q)) := {
  irrefl := fun x => by rw [flt]; simp
  trans := fun x y z h1 h2 => by rw [flt] at *; simp at *; omega
  ntrans := fun x y z h1 h2 => by rw [flt] at *; simp at *; omega }
theorem keeps_grow (w : World) (os : Array Obj) : Keeps (fun _ => False) w (grow w os) := ⟨rfl, rfl, rfl, by simp, fun k hk _ => heap_grow_old w os hk⟩
theorem keeps_put {α : Type} [Inhabited α] (enc : α → Value) (w : World) (g n : Nat) (d : Array α) : Keeps (fun b => b = g) w (putRow enc (Sort.ahead w n) g 0 d) :=
  ⟨rfl, rfl, rfl, by simp [putRow, mapBlock, Sort.ahead], fun k hk hne => by
    have : g ≠ k := fun e => hne e.symm
    simp [putRow, mapBlock, Sort.ahead, Array.getElem?_modify, this]⟩
/-- No later one comes before an earlier one. -/
def Ordered (W : Nat → WRec) (L : List Nat) : Prop := L.Pairwise fun a b => ¬ (W b).od < (W a).od
def SoPost (base : Nat) (W : Nat → WRec) (aw : Option Addr) (V : Value) (cnt : Nat) (L : List Nat) (w : World) (e : Ending) (w' : World) : Prop :=
  e = .returned (.tuple #[]) ∧ ∃ L' : List Nat, L'.Perm L ∧ Ordered W L' ∧ w'.ownsRow base 77 1 V cnt (L'.map (ptrAt aw)) ∧ Keeps (fun b => V.ownBlock = some b) w w'
theorem sort39_some (base base0 : Nat) (W : Nat → WRec) (aw : Option Addr) (nw cw cnt : Nat) (V : Value) (L : List Nat) (w : World) (hL : ∀ i, i ∈ L → i < nw) (hc : cnt ≤ 4096) (h0 : 0 < cnt)
    (own : w.ownsRow base 77 1 V cnt (L.map (ptrAt aw))) (ow : w.ownsRow base0 74 5 (.slice aw nw cw) nw (flat nw fun i => wc (W i))) :
    Calls Try.prog 39 #[V, .func (.func 40) #[] #[]] w (SoPost base W aw V cnt L w) := by
  have hlen : L.length = cnt := by have := own.1; simpa using this
  have hpos : 0 < nw := by
    cases L with
    | nil => simp at hlen; omega
    | cons x L => have := hL x (by simp); omega
  obtain ⟨q, rfl⟩ : ∃ q, nw = q + 1 := ⟨nw - 1, by omega⟩
  have hzs : (L.map (Fin.ofNat (q + 1))).map (fenc aw q) = L.map (ptrAt aw) := by
    rw [List.map_map]
    refine List.map_congr_left fun i hi => ?_
    show ptrAt aw (i % (q + 1)) = ptrAt aw i
    rw [Nat.mod_eq_of_lt (hL i hi)]
  have own' := own
  rw [← hzs] at own'
  have hVn : V ≠ .slice none 0 0 := by
    rintro rfl
    rcases own.2 with ⟨_, h⟩ | ⟨g, cap, cur, hv, _⟩
    · omega
    · cases hv
  obtain ⟨g, cap, rfl, hb, hg, hn, hm, hzl, hH⟩ := holds_of_ownsRow own' hVn
  obtain ⟨a, c, hv, _, hcs⟩ := own_in (f := fun i => wc (W i)) (fun _ => rfl) ow
  obtain ⟨b, ha, hbb, hblt, _, hcells⟩ := hcs (by omega)
  injection hv with e1 e2 e3
  subst e1; subst ha
  have hne : b ≠ g := by
    rintro rfl
    obtain ⟨_, h | ⟨g1, cap1, cur1, hv1, _, hg1, _⟩⟩ := ow
    · exact absurd h.1 (by simp)
    · obtain ⟨_, h | ⟨g2, cap2, cur2, hv2, _, hg2, _⟩⟩ := own
      · exact absurd h.1 (by simp)
      · injection hv1 with x1; injection x1 with x1; injection x1 with x1
        injection hv2 with y1; injection y1 with y1; injection y1 with y1
        subst x1; subst y1
        rw [hg1] at hg2; cases hg2
  have hcmp : CmpReads Try.prog 40 #[] (fenc (some ⟨b, 0, none⟩) q) (fcf W q) g 0 (L.map (Fin.ofNat (q + 1))).toArray.size w := by
    intro m os dk hs x y
    have hc : ∀ z : Fin (q + 1), (sortWorld (fenc (some ⟨b, 0, none⟩) q) w g 0 m dk os).cell? ⟨b, 0 + z.val * 5 + 2, none⟩ = some (.int .i64 (W z.val).od) := fun z => by
      unfold sortWorld
      rw [cell?_grow _ _ _ (by simpa [putRow, mapBlock, Sort.ahead] using hblt), cell?_putRow_other _ _ _ _ _ _ (Or.inl hne)]
      exact hcells z.val z.isLt 2 (by omega)
    exact order40_any b b (0 + x.val * 5) (0 + y.val * 5) _ _ _ (hc x) (hc y)
  have eg : ∀ args w, (callFunc 40 args).run Try.prog w = .ok (.enter 40 args) w := enters_of Try.func40 (by kernel_rfl) rfl
  have hS := Any.slices_SortFunc sortL (fenc (some ⟨b, 0, none⟩) q) (fun _ => rfl) (fcf W q) (fswo W q) 40 #[] g 0 cap (L.map (Fin.ofNat (q + 1))).toArray w eg hcmp.lays hH hg (by simp; omega)
  have hsz : (L.map (Fin.ofNat (q + 1))).toArray.size = cnt := by simpa using hlen
  rw [hsz] at hS
  change Calls Try.prog 39 _ _ _ at hS
  refine hS.mono ?_
  rintro e w' ⟨rfl, d', n, os, ⟨hp1, _, hp3⟩, hsrt, rfl⟩
  have hd1 : d'.size = cnt := hp1.trans hsz
  have hperm : d'.toList.Perm (L.map (Fin.ofNat (q + 1))) := by
    have h1 : d'.extract 0 cnt = d' := by rw [← hd1]; simp
    have h2 : (L.map (Fin.ofNat (q + 1))).toArray.extract 0 cnt = (L.map (Fin.ofNat (q + 1))).toArray := by
      rw [← hsz]; simp
      exact List.take_of_length_le (by simp)
    rw [h1, h2] at hp3
    exact hp3
  have hmm : (d'.toList.map (·.val)).map (ptrAt (some ⟨b, 0, none⟩)) = d'.toList.map (fenc (some ⟨b, 0, none⟩) q) := by rw [List.map_map]; rfl
  refine ⟨rfl, d'.toList.map (·.val), ?_, ?_, ?_, ?_⟩
  · have := hperm.map (fun x : Fin (q + 1) => x.val)
    rw [List.map_map] at this
    refine this.trans (List.Perm.of_eq ?_)
    refine (List.map_congr_left fun i hi => ?_).trans (List.map_id L)
    show i % (q + 1) = i
    exact Nat.mod_eq_of_lt (hL i hi)
  · unfold Ordered
    rw [List.pairwise_map, List.pairwise_iff_getElem]
    intro i j hi hj hij
    have hi' : i < d'.size := by simpa using hi
    have hj' : j < d'.size := by simpa using hj
    have h := hsrt i j (Nat.zero_le _) hij (by omega)
    rw [flt, getElem!_pos d' j hj', getElem!_pos d' i hi'] at h
    simpa using h
  · have h1 := ownsRow_putRow (q := n) (ys := d'.toList) own' (by simpa using hd1) (Nat.le_refl cnt)
    have h2 : d'.toList.take cnt = d'.toList := List.take_of_length_le (by simp; omega)
    rw [h2, Array.toArray_toList] at h1
    rw [hmm]
    exact own_keeps h1 (keeps_grow _ os) (fun _ _ h => h)
  · have h1 : Keeps (fun k => Value.ownBlock (.slice (some ⟨g, 0, none⟩) cnt cap) = some k) w (putRow (fenc (some ⟨b, 0, none⟩) q) (Sort.ahead w n) g 0 d') := (keeps_put (fenc (some ⟨b, 0, none⟩) q) w g n d').more fun k e => .inl (by rw [e]; rfl)
    exact h1.trans ((keeps_grow _ os).more fun _ h => h.elim)
end Go.Proofs.Qxb6612537a.U
