/-
  WALKS OF THE SEAT b6601838a: the number's reader.
-/
import Derived.Test.Qxb6601838aStep
import Derived.Deep.DeepCutAuto
import Derived.Deep.CutBlock
import Derived.Outline
namespace Go.Proofs.Qxb6601838a
open Go.RowKit Plain

theorem number_past (p : Nat) (a : Option Addr) (len cap : Nat) (i : Int) (w : World) (hi : (len : Int) ≤ i)
    (c1 : w.cell? ⟨p, 1, none⟩ = some (.slice a len cap)) (c2 : w.cell? ⟨p, 2, none⟩ = some (.int .i64 i)) :
    Calls Try.prog 19 #[.pointer (some ⟨p, 0, none⟩)] w fun e w' => e = .returned (.bool false) ∧ w' = w := by
  have hd : ¬ i < (len : Int) := by omega
  go_enter Try.func19, Try.ntmps19
  go_wp2
  go_ret
  exact ⟨rfl, rfl⟩

/-- 'digits' from 'k + d' on, as the reader calls it -/
theorem digits_at (b off cap : Nat) (zs : List Int) (k d : Nat) (w : World) (hl : zs.length ≤ 1048576)
    (hc : ∀ k, k < zs.length → w.cell? ⟨b, off + k, none⟩ = some (.int .u8 (byt zs k))) :
    Calls Try.prog 23 #[.slice (some ⟨b, off, none⟩) zs.length cap, .int .i64 ((k : Int) + (d : Int))] w fun e w' => e = .returned (.int .i64 (digs zs (k + d))) ∧ w = w' := by
  have := digits_any (some ⟨b, off, none⟩) cap zs ((k : Int) + (d : Int)) w hl (by omega) (.inr ⟨b, off, rfl, fun j hj => by rw [← byt_lt hj]; exact hc j hj⟩)
  have e : ((k : Int) + (d : Int)).toNat = k + d := by omega
  rw [e] at this
  refine this.mono ?_
  rintro e w' ⟨rfl, rfl⟩
  exact ⟨rfl, rfl⟩

set_option maxRecDepth 100000 in
set_option maxHeartbeats 1600000 in
theorem number_row (p : Nat) (b off cap : Nat) (zs : List Int) (i : Nat) (w : World) (hl : zs.length ≤ 1048576) (hi : i < zs.length)
    (c1 : w.cell? ⟨p, 1, none⟩ = some (.slice (some ⟨b, off, none⟩) zs.length cap)) (c2 : w.cell? ⟨p, 2, none⟩ = some (.int .i64 i)) (f2 : w.frozen? ⟨p, 2, none⟩ = false)
    (hc : ∀ k, k < zs.length → w.cell? ⟨b, off + k, none⟩ = some (.int .u8 (zs.getD k 0))) :
    Calls Try.prog 19 #[.pointer (some ⟨p, 0, none⟩)] w fun e w' =>
      e = .returned (.bool (num zs i).isSome) ∧ (w' = w ∧ num zs i = none ∨ ∃ j : Nat, num zs i = some j ∧ w' = w.setCell ⟨p, 2, none⟩ (.int .i64 j)) := by
  obtain ⟨N, hN⟩ : ∃ N, N = num zs i := ⟨_, rfl⟩
  rw [← hN]
  have hcb : ∀ k, k < zs.length → w.cell? ⟨b, off + k, none⟩ = some (.int .u8 (byt zs k)) := fun k hk => by rw [byt_lt hk]; exact hc k hk
  obtain ⟨c, hcd⟩ : ∃ c, c = byt zs i := ⟨_, rfl⟩
  have hcell : w.cell? ⟨b, off + i, none⟩ = some (.int .u8 c) := by rw [hcd]; exact hcb i hi
  have HC : Hid (c = byt zs i) := hcd
  have HN : Hid (N = num zs i) := hN
  have HCB : Hid (∀ k, k < zs.length → w.cell? ⟨b, off + k, none⟩ = some (.int .u8 (byt zs k))) := hcb
  clear hN hcd hcb hc
  go_enter Try.func19, Try.ntmps19
  go_upto_if 25 with fail
  go_cut [4] (fun t wc => w = wc ∧ ∃ k : Nat, k ≤ zs.length ∧ t = .int .i64 k ∧ whole zs k = N)
  case first =>
    by_cases h : c = 45
    · have hb : (c == 45) = true := by simp [h]
      have HX : Hid (whole zs (i + 1) = N) := by show _ = _; rw [HN.out, num, ← HC.out, if_pos h]
      clear h
      go_wp2
      go_meet
      case rel => exact ⟨rfl, i + 1, by omega, by go_num, HX.out⟩
    · have hb : (c == 45) = false := by simp [h]
      have HX : Hid (whole zs i = N) := by show _ = _; rw [HN.out, num, ← HC.out, if_neg h]
      clear h
      go_wp2
      go_meet
      case rel => exact ⟨rfl, i, by omega, rfl, HX.out⟩
  case rest =>
    obtain ⟨rfl, k, hk, rfl, hkn⟩ := hcut
    clear hcell HC HN
    go_upto_block 0 with fail
    go_cut [4] (fun t wc => w = wc ∧ ∃ k : Nat, k ≤ zs.length ∧ t = .int .i64 k ∧ frac zs k = N)
    case first =>
      have HK : Hid (whole zs k = N) := hkn
      clear hkn
      by_cases hlt : k < zs.length
      · obtain ⟨c, hcd⟩ : ∃ c, c = byt zs k := ⟨_, rfl⟩
        have hcell : w.cell? ⟨b, off + k, none⟩ = some (.int .u8 c) := by rw [hcd]; exact HCB.out k hlt
        have HC : Hid (c = byt zs k) := hcd
        clear hcd
        by_cases h0 : c = 48
        · have hb : (c == 48) = true := by simp [h0]
          have HX : Hid (frac zs (k + 1) = N) := by show _ = _; rw [← HK.out, whole, ← HC.out, if_pos h0]
          clear h0
          go_wp2
          go_meet
          case rel => exact ⟨rfl, k + 1, by omega, by go_num, HX.out⟩
        · have hb : (c == 48) = false := by simp [h0]
          by_cases h1 : 49 ≤ c
          · by_cases h9 : c ≤ 57
            · have HX : Hid (frac zs (digs zs (k + 1)) = N) := by show _ = _; rw [← HK.out, whole, ← HC.out, if_neg h0, if_pos ⟨h1, h9⟩]
              have HL := digs_le (zs := zs) (i := k + 1) (by omega)
              have HD : Hid (Calls Try.prog 23 #[.slice (some ⟨b, off, none⟩) zs.length cap, .int .i64 (k + 1)] w fun e w' => e = .returned (.int .i64 (digs zs (k + 1))) ∧ w = w') := digits_at b off cap zs k 1 w hl HCB.out
              obtain ⟨D, hD⟩ : ∃ D, D = digs zs (k + 1) := ⟨_, rfl⟩
              rw [← hD] at HX HL HD
              clear h0 hD
              go_wp2_with (go_at_call 23; refine HD.out.mono ?_; rintro e w' ⟨rfl, rfl⟩)
              go_meet
              case rel => exact ⟨rfl, D, HL, rfl, HX.out⟩
            · have HX : Hid (N = none) := by show _ = _; rw [← HK.out, whole, ← HC.out, if_neg h0, if_neg (by omega)]
              clear h0
              go_wp2
              go_ret
              exact ⟨by rw [HX.out]; rfl, .inl ⟨rfl, HX.out⟩⟩
          · have HX : Hid (N = none) := by show _ = _; rw [← HK.out, whole, ← HC.out, if_neg h0, if_neg (by omega)]
            clear h0
            go_wp2
            go_ret
            exact ⟨by rw [HX.out]; rfl, .inl ⟨rfl, HX.out⟩⟩
      · have HX : Hid (N = none) := by
          show _ = _
          rw [← HK.out, whole, byt_ge (by omega), if_neg (by omega), if_neg (by omega)]
        go_wp2
        go_ret
        exact ⟨by rw [HX.out]; rfl, .inl ⟨rfl, HX.out⟩⟩
    case rest =>
      clear hkn hk
      obtain ⟨rfl, m, hm, rfl, hmn⟩ := hcut
      have HM : Hid (frac zs m = N) := hmn
      clear hmn
      obtain ⟨B, hB⟩ : ∃ B : Bool, B = decide (byt zs m = 46) := ⟨_, rfl⟩
      have HB : Hid (B = decide (byt zs m = 46)) := hB
      clear hB
      go_upto_region 10 with fail
      go_cut [75] (fun t wc => w = wc ∧ t = .bool B)
      case first =>
        clear HM
        by_cases hlt : m < zs.length
        · obtain ⟨c, hcd⟩ : ∃ c, c = byt zs m := ⟨_, rfl⟩
          have hcell : w.cell? ⟨b, off + m, none⟩ = some (.int .u8 c) := by rw [hcd]; exact HCB.out m hlt
          have HC : Hid (B = (c == 46)) := by show _ = _; rw [HB.out, ← hcd]; rfl
          clear hcd
          go_wp2
          go_meet
          case rel => exact ⟨rfl, by rw [HC.out]⟩
        · have HC : Hid (B = false) := by show _ = _; rw [HB.out, byt_ge (by omega)]; rfl
          go_wp2
          go_meet
          case rel => exact ⟨rfl, by rw [HC.out]⟩
      case rest =>
        obtain ⟨rfl, rfl⟩ := hcut
        go_upto_if 75 with fail
        go_cut [4] (fun t wc => w = wc ∧ ∃ k : Nat, k ≤ zs.length ∧ t = .int .i64 k ∧ exp_ zs k = N)
        case first =>
          by_cases hdot : byt zs m = 46
          · have hd : B = true := by rw [HB.out]; simp [hdot]
            subst hd
            have hlt : m < zs.length := lt_of_byt (by omega)
            have HX0 : Hid (N = if m + 1 < digs zs (m + 1) then exp_ zs (digs zs (m + 1)) else none) := by show _ = _; rw [← HM.out, frac, if_pos hdot]
            clear hdot
            have HL := digs_le (zs := zs) (i := m + 1) (by omega)
            have HD : Hid (Calls Try.prog 23 #[.slice (some ⟨b, off, none⟩) zs.length cap, .int .i64 (m + 1)] w fun e w' => e = .returned (.int .i64 (digs zs (m + 1))) ∧ w = w') := digits_at b off cap zs m 1 w hl HCB.out
            obtain ⟨D, hD⟩ : ∃ D, D = digs zs (m + 1) := ⟨_, rfl⟩
            rw [← hD] at HX0 HL HD
            clear hD
            by_cases hgt : m + 1 < D
            · have HX : Hid (exp_ zs D = N) := by show _ = _; rw [HX0.out, if_pos hgt]
              have hgt' : (m : Int) + 1 < (D : Int) := by omega
              clear hgt
              go_wp2_with (go_at_call 23; refine HD.out.mono ?_; rintro e w' ⟨rfl, rfl⟩)
              go_meet
              case rel => exact ⟨rfl, D, HL, rfl, HX.out⟩
            · have HX : Hid (N = none) := by show _ = _; rw [HX0.out, if_neg hgt]
              have hgt' : ¬ ((m : Int) + 1 < (D : Int)) := by omega
              clear hgt
              go_wp2_with (go_at_call 23; refine HD.out.mono ?_; rintro e w' ⟨rfl, rfl⟩)
              go_ret
              exact ⟨by rw [HX.out]; rfl, .inl ⟨rfl, HX.out⟩⟩
          · have hd : B = false := by rw [HB.out]; simp [hdot]
            subst hd
            have HX : Hid (exp_ zs m = N) := by show _ = _; rw [← HM.out, frac, if_neg hdot]
            clear hdot
            go_wp2
            go_meet
            case rel => exact ⟨rfl, m, hm, rfl, HX.out⟩
        case rest =>
          clear HM hm
          obtain ⟨rfl, q, hq, rfl, hqn⟩ := hcut
          have HQ : Hid (exp_ zs q = N) := hqn
          clear hqn
          obtain ⟨E, hE⟩ : ∃ E : Bool, E = decide (byt zs q = 101 ∨ byt zs q = 69) := ⟨_, rfl⟩
          have HE0 : Hid (E = decide (byt zs q = 101 ∨ byt zs q = 69)) := hE
          clear hE
          go_upto_region 15 with fail
          go_cut [102] (fun t wc => w = wc ∧ t = .bool E)
          case first =>
            clear HQ
            by_cases hlt : q < zs.length
            · obtain ⟨c, hcd⟩ : ∃ c, c = byt zs q := ⟨_, rfl⟩
              have hcell : w.cell? ⟨b, off + q, none⟩ = some (.int .u8 c) := by rw [hcd]; exact HCB.out q hlt
              have HC : Hid (E = decide (c = 101 ∨ c = 69)) := by show _ = _; rw [HE0.out, ← hcd]
              clear hcd
              by_cases h1 : c = 101
              · have hb1 : (c == 101) = true := by simp [h1]
                have HE : Hid (decide (c = 101 ∨ c = 69) = true) := by show _ = _; simp [h1]
                clear h1
                go_wp2
                go_meet
                case rel => exact ⟨rfl, by rw [HC.out, HE.out]⟩
              · have hb1 : (c == 101) = false := by simp [h1]
                have HE : Hid (decide (c = 101 ∨ c = 69) = (c == 69)) := by
                  show _ = _
                  rw [Bool.eq_iff_iff]; simp [h1]
                clear h1
                go_wp2
                go_meet
                case rel => exact ⟨rfl, by rw [HC.out, HE.out]⟩
            · have HC : Hid (E = false) := by show _ = _; rw [HE0.out, byt_ge (by omega)]; rfl
              go_wp2
              go_meet
              case rel => exact ⟨rfl, by rw [HC.out]⟩
          case rest =>
            obtain ⟨rfl, rfl⟩ := hcut
            by_cases he : byt zs q = 101 ∨ byt zs q = 69
            · have hd : E = true := by rw [HE0.out]; simp [he]
              subst hd
              have hlt : q < zs.length := lt_of_byt (by omega)
              have HX0 : Hid (N = (let k := if byt zs (q + 1) = 43 ∨ byt zs (q + 1) = 45 then q + 1 + 1 else q + 1
                 if k < digs zs k then some (digs zs k) else none)) := by show _ = _; rw [← HQ.out, exp_, if_pos he]
              clear he HQ
              obtain ⟨S, hS⟩ : ∃ S : Bool, S = decide (byt zs (q + 1) = 43 ∨ byt zs (q + 1) = 45) := ⟨_, rfl⟩
              have HS : Hid (S = decide (byt zs (q + 1) = 43 ∨ byt zs (q + 1) = 45)) := hS
              clear hS
              go_upto_region 17 with fail
              go_cut [122] (fun t wc => w = wc ∧ t = .bool S)
              case first =>
                clear HX0
                by_cases hlt1 : q + 1 < zs.length
                · obtain ⟨c, hcd⟩ : ∃ c, c = byt zs (q + 1) := ⟨_, rfl⟩
                  have hcell : w.cell? ⟨b, off + (q + 1), none⟩ = some (.int .u8 c) := by rw [hcd]; exact HCB.out (q + 1) hlt1
                  have hlti : (q : Int) + 1 < (zs.length : Int) := by omega
                  have HC : Hid (S = decide (c = 43 ∨ c = 45)) := by show _ = _; rw [HS.out, ← hcd]
                  clear hcd
                  by_cases h1 : c = 43
                  · have hb1 : (c == 43) = true := by simp [h1]
                    have HE : Hid (decide (c = 43 ∨ c = 45) = true) := by show _ = _; simp [h1]
                    clear h1
                    go_wp2
                    go_meet
                    case rel => exact ⟨rfl, by rw [HC.out, HE.out]⟩
                  · have hb1 : (c == 43) = false := by simp [h1]
                    have HE : Hid (decide (c = 43 ∨ c = 45) = (c == 45)) := by
                      show _ = _
                      rw [Bool.eq_iff_iff]; simp [h1]
                    clear h1
                    go_wp2
                    go_meet
                    case rel => exact ⟨rfl, by rw [HC.out, HE.out]⟩
                · have HC : Hid (S = false) := by show _ = _; rw [HS.out, byt_ge (by omega)]; rfl
                  have hlti : ¬ (q : Int) + 1 < (zs.length : Int) := by omega
                  go_wp2
                  go_meet
                  case rel => exact ⟨rfl, by rw [HC.out]⟩
              case rest =>
                obtain ⟨rfl, rfl⟩ := hcut
                by_cases hs : byt zs (q + 1) = 43 ∨ byt zs (q + 1) = 45
                · have hd : S = true := by rw [HS.out]; simp [hs]
                  subst hd
                  have hlt1 : q + 1 < zs.length := lt_of_byt (by omega)
                  have HX1 : Hid (N = if q + 1 + 1 < digs zs (q + 1 + 1) then some (digs zs (q + 1 + 1)) else none) := by show _ = _; rw [HX0.out, if_pos hs]
                  clear hs HX0 HS
                  have HD : Hid (Calls Try.prog 23 #[.slice (some ⟨b, off, none⟩) zs.length cap, .int .i64 (q + 1 + 1)] w fun e w' => e = .returned (.int .i64 (digs zs (q + 1 + 1))) ∧ w = w') := digits_at b off cap zs (q + 1) 1 w hl HCB.out
                  obtain ⟨D, hD⟩ : ∃ D, D = digs zs (q + 1 + 1) := ⟨_, rfl⟩
                  rw [← hD] at HX1 HD
                  clear hD
                  by_cases hgt : q + 1 + 1 < D
                  · have HX : Hid (N = some D) := by show _ = _; rw [HX1.out, if_pos hgt]
                    have hgt' : (q : Int) + 1 + 1 < (D : Int) := by omega
                    clear hgt HX1
                    go_wp2_with (go_at_call 23; refine HD.out.mono ?_; rintro e w' ⟨rfl, rfl⟩)
                    go_ret
                    exact ⟨by rw [HX.out]; rfl, .inr ⟨D, HX.out, rfl⟩⟩
                  · have HX : Hid (N = none) := by show _ = _; rw [HX1.out, if_neg hgt]
                    have hgt' : ¬ (q : Int) + 1 + 1 < (D : Int) := by omega
                    clear hgt HX1
                    go_wp2_with (go_at_call 23; refine HD.out.mono ?_; rintro e w' ⟨rfl, rfl⟩)
                    go_ret
                    exact ⟨by rw [HX.out]; rfl, .inl ⟨rfl, HX.out⟩⟩
                · have hd : S = false := by rw [HS.out]; simp [hs]
                  subst hd
                  have HX1 : Hid (N = if q + 1 < digs zs (q + 1) then some (digs zs (q + 1)) else none) := by show _ = _; rw [HX0.out, if_neg hs]
                  clear hs HX0 HS
                  have HD : Hid (Calls Try.prog 23 #[.slice (some ⟨b, off, none⟩) zs.length cap, .int .i64 (q + 1)] w fun e w' => e = .returned (.int .i64 (digs zs (q + 1))) ∧ w = w') := digits_at b off cap zs q 1 w hl HCB.out
                  obtain ⟨D, hD⟩ : ∃ D, D = digs zs (q + 1) := ⟨_, rfl⟩
                  rw [← hD] at HX1 HD
                  clear hD
                  by_cases hgt : q + 1 < D
                  · have HX : Hid (N = some D) := by show _ = _; rw [HX1.out, if_pos hgt]
                    have hgt' : (q : Int) + 1 < (D : Int) := by omega
                    clear hgt HX1
                    go_wp2_with (go_at_call 23; refine HD.out.mono ?_; rintro e w' ⟨rfl, rfl⟩)
                    go_ret
                    exact ⟨by rw [HX.out]; rfl, .inr ⟨D, HX.out, rfl⟩⟩
                  · have HX : Hid (N = none) := by show _ = _; rw [HX1.out, if_neg hgt]
                    have hgt' : ¬ (q : Int) + 1 < (D : Int) := by omega
                    clear hgt HX1
                    go_wp2_with (go_at_call 23; refine HD.out.mono ?_; rintro e w' ⟨rfl, rfl⟩)
                    go_ret
                    exact ⟨by rw [HX.out]; rfl, .inl ⟨rfl, HX.out⟩⟩
            · have hd : E = false := by rw [HE0.out]; simp [he]
              subst hd
              have HX : Hid (N = some q) := by show _ = _; rw [← HQ.out, exp_, if_neg he]
              clear he HQ
              go_wp2
              go_ret
              exact ⟨by rw [HX.out]; rfl, .inr ⟨q, HX.out, rfl⟩⟩
end Go.Proofs.Qxb6601838a
