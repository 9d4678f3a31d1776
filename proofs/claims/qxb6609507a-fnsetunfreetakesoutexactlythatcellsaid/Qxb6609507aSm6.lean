import Derived.Test.Qxb6609507aSetIs
import Derived.Deep.CutBlock
namespace Go.Proofs.Qxb6609507a.U
open Go.RowKit Go.Proofs.Qxb6609507a.Plain
set_option linter.unusedVariables false
set_option linter.unusedSimpArgs false

set_option maxRecDepth 100000 in
set_option maxHeartbeats 8000000 in
theorem sm6 {w : World} {FF l nn : Nat} {aw : Option Addr} {cw : Nat} {C : Nat → Value} {D WB cc : Nat} {XB : Nat → Nat} {S : Nat → Bool} {X : Nat → Nat → Nat} (k j pl : Nat) (K : Act → World → Prop) (Q : Exit → Act → World → Prop) (c3 c4 c5 c6 c8 c9 c10 c11 c14 c18 c19 c20 c21 c22 c23 c24 c25 c26 c27 c28 c29 c30 c31 c32 c33 c34 c35 c36 c37 c38 c39 c40 c41 c42 c43 c44 c45 c46 c47 c48 c49 c50 c51 c52 c53 c54 c55 c56 c57 c58 c59 c60 c61 c62 c63 c64 c65 c66 c67 c68 c69 c70 c71 c72 c73 c74 c75 c76 c77 c78 c79 c80 c81 c82 c83 c84 c85 c86 c87 c88 c89 c90 c91 c92 c93 c94 c95 c96 c97 c98 c99 c100 c101 c102 c103 c104 c105 c106 c107 c108 c109 c110 c111 c112 c113 c114 c115 c116 c117 c118 c119 c120 c121 c122 c123 c124 c125 c126 c127 c128 c129 c130 c131 c132 c133 c134 c135 c136 c137 c138 c139 c140 : Value)
    (hS : SetIs w FF l nn aw C D WB cc XB S X) (hk : k < D) (hj : j < wlen nn k) (hpl : ∀ k0, k = k0 + 1 → pl = wlen nn k0)
    (hK : ∀ (u17 u18 u19 u82 u83 u84 u85 u86 u87 u88 u89 u90 u91 u92 u93 u94 u95 u96 u97 u98 u99 u100 u101 u102 u103 u104 u105 u106 u107 u108 u109 u110 u111 u112 u113 u114 u115 u116 u117 u118 : Value), K ⟨(.pointer (some ⟨FF, 0, none⟩) :: .int .i64 (l : Nat) :: .slice aw nn cw :: c3 :: c4 :: c5 :: c6 :: .int .i64 (nn : Nat) :: c8 :: c9 :: c10 :: c11 :: .int .i64 (pl : Nat) :: .int .i64 (k : Nat) :: c14 :: .int .i64 (j : Nat) :: .int .u64 (X k j : Nat) :: u17 :: u18 :: u19 :: c20 :: c21 :: c22 :: c23 :: c24 :: c25 :: c26 :: c27 :: c28 :: c29 :: c30 :: c31 :: c32 :: c33 :: c34 :: c35 :: c36 :: c37 :: c38 :: c39 :: c40 :: c41 :: c42 :: c43 :: c44 :: c45 :: c46 :: c47 :: c48 :: c49 :: c50 :: c51 :: c52 :: c53 :: c54 :: c55 :: c56 :: c57 :: c58 :: c59 :: c60 :: c61 :: c62 :: c63 :: c64 :: c65 :: c66 :: c67 :: c68 :: c69 :: c70 :: c71 :: c72 :: c73 :: c74 :: c75 :: c76 :: c77 :: c78 :: c79 :: c80 :: c81 :: u82 :: u83 :: u84 :: u85 :: u86 :: u87 :: u88 :: u89 :: u90 :: u91 :: u92 :: u93 :: u94 :: u95 :: u96 :: u97 :: u98 :: u99 :: u100 :: u101 :: u102 :: u103 :: u104 :: u105 :: u106 :: u107 :: u108 :: u109 :: u110 :: u111 :: u112 :: u113 :: u114 :: u115 :: u116 :: u117 :: u118 :: c119 :: c120 :: c121 :: c122 :: c123 :: c124 :: c125 :: c126 :: c127 :: c128 :: c129 :: c130 :: c131 :: c132 :: c133 :: c134 :: c135 :: c136 :: c137 :: c138 :: c139 :: c140 :: [] : List Value).toArray, []⟩ w) :
    Code.wp Try.prog ((Try.f22.body.bind (blockAt 6)).getD .skip) (Exit.then K (NoPanic Q)) ⟨(.pointer (some ⟨FF, 0, none⟩) :: .int .i64 (l : Nat) :: .slice aw nn cw :: c3 :: c4 :: c5 :: c6 :: .int .i64 (nn : Nat) :: c8 :: c9 :: c10 :: c11 :: .int .i64 (pl : Nat) :: .int .i64 (k : Nat) :: c14 :: .int .i64 (j : Nat) :: .int .u64 0 :: .int .i64 0 :: c18 :: c19 :: c20 :: c21 :: c22 :: c23 :: c24 :: c25 :: c26 :: c27 :: c28 :: c29 :: c30 :: c31 :: c32 :: c33 :: c34 :: c35 :: c36 :: c37 :: c38 :: c39 :: c40 :: c41 :: c42 :: c43 :: c44 :: c45 :: c46 :: c47 :: c48 :: c49 :: c50 :: c51 :: c52 :: c53 :: c54 :: c55 :: c56 :: c57 :: c58 :: c59 :: c60 :: c61 :: c62 :: c63 :: c64 :: c65 :: c66 :: c67 :: c68 :: c69 :: c70 :: c71 :: c72 :: c73 :: c74 :: c75 :: c76 :: c77 :: c78 :: c79 :: c80 :: c81 :: c82 :: c83 :: c84 :: c85 :: c86 :: c87 :: c88 :: c89 :: c90 :: c91 :: c92 :: c93 :: c94 :: c95 :: c96 :: c97 :: c98 :: c99 :: c100 :: c101 :: c102 :: c103 :: c104 :: c105 :: c106 :: c107 :: c108 :: c109 :: c110 :: c111 :: c112 :: c113 :: c114 :: c115 :: c116 :: c117 :: c118 :: c119 :: c120 :: c121 :: c122 :: c123 :: c124 :: c125 :: c126 :: c127 :: c128 :: c129 :: c130 :: c131 :: c132 :: c133 :: c134 :: c135 :: c136 :: c137 :: c138 :: c139 :: c140 :: [] : List Value).toArray, []⟩ w := by
  have HK : Hid _ := hK
  have HS := hid hS
  have hl := hS.hl
  have hn9 := hS.n9
  clear hK hS
  conv => arg 2; whnf
  have hwl := wlen_le hn9 k
  have hD := depth_le hn9 HS.out.dp
  go_cut [16] from 82 to 118 (fun s16 wx => s16 = .int .u64 (X k j : Nat) ∧ wx = w)
  case first =>
    go_wp2_with fail
    go_loopg [16, 17] 64 (fun gk s16 s17 wr => ∃ b : Nat, gk = 64 - b ∧ b ≤ 64 ∧ s16 = .int .u64 (bsum (fun b => Z (wlen nn) S X k (64 * j + b)) b : Nat) ∧ s17 = .int .i64 (b : Nat) ∧ wr = w)
    case atStart => exact ⟨0, rfl, Nat.zero_le _, rfl, rfl, rfl⟩
    case round =>
      obtain ⟨b, rfl, hb, rfl, rfl, rfl⟩ := hrel
      by_cases hb64 : b < 64
      · obtain ⟨ix, hix⟩ : ∃ ix, ix = 64 * j + b := ⟨_, rfl⟩
        obtain ⟨z, hz⟩ : ∃ z, z = Z (wlen nn) S X k ix := ⟨_, rfl⟩
        obtain ⟨bs0, hbs⟩ : ∃ bs0, bs0 = bsum (fun b => Z (wlen nn) S X k (64 * j + b)) b := ⟨_, rfl⟩
        have hixi : ((j : Nat) : Int) * 64 + ((b : Nat) : Int) = (ix : Int) := by omega
        have hbs9 : bs0 < 18446744073709551616 := by rw [hbs]; exact bsum_lt64 _ (by omega)
        have Hz := hid hz
        have Hbs := hid hbs
        have Hix := hid hix
        rw [← hbs]
        clear hz hbs hix
        go_upto_region 35 with fail
        have hix9 : ix ≤ 131072 := by omega
        clear hixi
        go_upto_if 91 with fail
        go_cut [19] from 82 to 118 (fun s19 wx => s19 = .bool z ∧ wx = wr)
        case first =>
          by_cases hk0 : k = 0
          · have hbk : (((k : Nat) : Int) == 0) = true := beqT (b := 0) hk0
            have HzS : Hid (z = S ix) := by have h := Hz.out; rw [hk0] at h; exact h
            by_cases hin : ix < nn
            · obtain ⟨gw, rfl, cw1⟩ := HS.out.want ix hin
              rw [← HzS.out] at cw1
              have hini : ((ix : Nat) : Int) < (nn : Int) := by omega
              clear hk0
              go_wp2
              go_meet
              case rel => exact ⟨rfl, rfl⟩
            · have HzF : Hid (z = false) := by show z = false; rw [HzS.out]; exact HS.out.out ix (by omega)
              have hini : ¬ ((ix : Nat) : Int) < (nn : Int) := by omega
              clear hk0
              go_wp2
              go_meet
              case rel => exact ⟨by rw [HzF.out], rfl⟩
          · obtain ⟨k0, hk0'⟩ : ∃ k0, k = k0 + 1 := ⟨k - 1, by omega⟩
            have hbk : (((k : Nat) : Int) == 0) = false := beqF (b := 0) hk0
            have hpl' := hpl k0 hk0'
            have hwl0 := wlen_le hn9 k0
            have HzK : Hid (z = (decide (ix < wlen nn k0) && decide (X k0 ix ≠ 0))) := by have h := Hz.out; rw [hk0'] at h; exact h
            have hkm : ((k : Nat) : Int) - 1 = (k0 : Int) := by omega
            by_cases hin : ix < pl
            · have hX := HS.out.wd.row k0 (by omega)
              have C21 := acc21 HS.out.ff l k0 ix D cc WB (XB k0) _ _ (wlen nn k0) (wlen nn k0) (X k0 ix : Nat) hl HS.out.f0 HS.out.wd.table (by omega) rfl hX (by omega) rfl
              have hini : ((ix : Nat) : Int) < (pl : Int) := by omega
              have HzX : Hid (z = decide (X k0 ix ≠ 0)) := by
                show z = _
                rw [HzK.out, decide_eq_true (by omega : ix < wlen nn k0), Bool.true_and]
              clear hX hk0' hpl'
              go_wp2_with (go_at_call 21; refine C21.mono ?_; rintro e w2 ⟨rfl, rfl⟩)
              go_meet
              case rel =>
                refine ⟨congrArg Value.bool ?_, rfl⟩
                rw [HzX.out]
                by_cases e : X k0 ix = 0
                · simp [e]
                · simp [e]
            · have HzF : Hid (z = false) := by
                show z = false
                rw [HzK.out, decide_eq_false (by omega : ¬ ix < wlen nn k0), Bool.false_and]
              have hini : ¬ ((ix : Nat) : Int) < (pl : Int) := by omega
              clear hk0' hpl'
              go_wp2
              go_meet
              case rel => exact ⟨by rw [HzF.out], rfl⟩
        case rest =>
          obtain ⟨rfl, rfl⟩ := hcut
          have hor := or64 bs0 b hbs9 hb64
          cases z with
          | true =>
            have HB : Hid (bs0 ||| 2 ^ b = bsum (fun b => Z (wlen nn) S X k (64 * j + b)) (b + 1)) := by
              show bs0 ||| 2 ^ b = _
              rw [Hbs.out]
              exact bsum_or _ _ (by show Z _ _ _ _ _ = true; rw [← Hix.out, ← Hz.out])
            go_wp2
            go_roundg (64 - (b + 1))
            case measure => omega
            case rel => exact ⟨b + 1, rfl, by omega, by first | rw [← HB.out] | (rw [← HB.out, ← hor]), by go_num, rfl⟩
          | false =>
            have HB : Hid (bsum (fun b => Z (wlen nn) S X k (64 * j + b)) (b + 1) = bs0) := by
              show _ = bs0
              rw [Hbs.out]
              exact bsum_no _ _ (by show Z _ _ _ _ _ = false; rw [← Hix.out, ← Hz.out])
            clear hor
            go_wp2
            go_roundg (64 - (b + 1))
            case measure => omega
            case rel => exact ⟨b + 1, rfl, by omega, by rw [HB.out], by go_num, rfl⟩
      · have e : b = 64 := by omega
        go_wp2
        go_meet
        case rel =>
          refine ⟨?_, rfl⟩
          rw [HS.out.ok k hk j hj, e]
          rfl
  case rest =>
    obtain ⟨rfl, rfl⟩ := hcut
    exact HK.out _ _ _ _ _ _ _ _ _ _ _ _ _ _ _ _ _ _ _ _ _ _ _ _ _ _ _ _ _ _ _ _ _ _ _ _ _ _ _ _ 

end Go.Proofs.Qxb6609507a.U
