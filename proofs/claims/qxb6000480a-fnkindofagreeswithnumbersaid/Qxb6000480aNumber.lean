/-
  The walk of (*jsonScanner).number.
-/
import Derived.Test.Qxb6000480aDigits
import Derived.Deep.QuietTactic
import Derived.BigQuiet
import Derived.Deep.Draws
import Derived.Deep.DeepCutAuto
import Derived.Deep.CutBlock
namespace Go.Proofs.Qxb6000480a
open Go.RowKit

def is46 (s : ByteArray) (i : Nat) : Bool := decide (bt s i = 46)
def isE (s : ByteArray) (i : Nat) : Bool := decide (bt s i = 101 ∨ bt s i = 69)
def isS (s : ByteArray) (i : Nat) : Bool := decide (bt s i = 43 ∨ bt s i = 45)
theorem bool_eq {a b : Bool} (h : a = b) : Value.bool a = Value.bool b := by rw [h]

/-- The end of number. -/
def NEnd (s : ByteArray) (sb off : Nat) (w : World) (e : Ending) (w' : World) : Prop :=
  (∃ t : Nat, e = .returned (.bool true) ∧ Num (bt s) off t ∧ ∃ n, w' = (w.setCell ⟨sb, 1, none⟩ (.int .i64 t)).drewN n) ∨
  (e = .returned (.bool false) ∧ (∀ t, ¬ Num (bt s) off t) ∧ ∃ n, w' = w.drewN n)

set_option maxHeartbeats 4000000 in
set_option maxRecDepth 1000000 in
theorem num_any (s : ByteArray) (sb off : Nat) (w : World) (hs : s.size ≤ 1048577) (ho : off < s.size)
    (hc0 : w.cell? ⟨sb, 0, none⟩ = some (.string s)) (hc1 : w.cell? ⟨sb, 1, none⟩ = some (.int .i64 off)) (hf1 : w.frozen? ⟨sb, 1, none⟩ = false) :
    Calls Try.prog 25 #[.pointer (some ⟨sb, 0, none⟩)] w fun e w' => NEnd s sb off w e w' := by
  have ho' : (off : Int) < s.size := by omega
  have HB : Hid (bt s off = s[off].toNat) := bt_lt s off ho
  go_enter Try.func25, Try.ntmps25
  go_wp2_with fail
  go_quiet (fail)
  go_upto_if 18 with fail
  go_cut [4] (fun s4 wc => ∃ i1 n : Nat, s4 = .int .i64 i1 ∧ i1 ≤ s.size ∧ S1 (bt s) off i1 ∧ wc = w.drewN n)
  case first =>
    by_cases h45 : bt s off = 45
    · have hb : ((s[off].toNat : Int) == 45) = true := by rw [beq_iff_eq]; have := HB.out; omega
      have H1 : Hid (S1 (bt s) off (off + 1)) := Or.inl ⟨h45, rfl⟩
      clear h45 HB
      go_wp2
      go_meet
      case rel => exact ⟨off + 1, _, by go_num, by omega, H1.out, rfl⟩
    · have hb : ((s[off].toNat : Int) == 45) = false := by rw [beq_eq_false_iff_ne]; have := HB.out; omega
      have H1 : Hid (S1 (bt s) off off) := Or.inr ⟨h45, rfl⟩
      clear h45 HB
      go_wp2
      go_meet
      case rel => exact ⟨off, _, rfl, by omega, H1.out, rfl⟩
  case rest =>
    obtain ⟨i1, n1, rfl, hi1, h1, rfl⟩ := hcut
    have H1 : Hid (S1 (bt s) off i1) := h1
    clear h1 HB ho'
    go_upto_block 0 with fail
    go_cut [4] (fun s4 wc => ∃ i2 n : Nat, s4 = .int .i64 i2 ∧ i2 ≤ s.size ∧ S2 (bt s) i1 i2 ∧ wc = w.drewN n)
    case first =>
      by_cases hlt : i1 < s.size
      case neg =>
        have hd : decide (i1 < s.size) = false := decide_eq_false hlt
        have HN : Hid (∀ t, ¬ Num (bt s) off t) := no_int H1.out (by rw [bt_end s i1 (by omega)]; omega) (by rw [bt_end s i1 (by omega)]; unfold isD; omega)
        clear H1
        go_wp2
        go_ret
        exact Or.inr ⟨rfl, HN.out, _, rfl⟩
      have hlt' : (i1 : Int) < s.size := by omega
      have HB : Hid (bt s i1 = s[i1].toNat) := bt_lt s i1 hlt
      by_cases h48 : bt s i1 = 48
      · have hb : ((s[i1].toNat : Int) == 48) = true := by rw [beq_iff_eq]; have := HB.out; omega
        have H2 : Hid (S2 (bt s) i1 (i1 + 1)) := Or.inl ⟨h48, rfl⟩
        clear h48 HB H1
        go_wp2
        go_meet
        case rel => exact ⟨i1 + 1, _, by go_num, by omega, H2.out, rfl⟩
      · have hb : ((s[i1].toNat : Int) == 48) = false := by rw [beq_eq_false_iff_ne]; have := HB.out; omega
        by_cases hd : isD (bt s i1)
        · have hd' := hd
          unfold isD at hd'
          rw [HB.out] at hd'
          have H2 : Hid (∀ j, Skp (bt s) i1 j → S2 (bt s) i1 j) := fun j hj => Or.inr ⟨h48, hd, hj⟩
          clear h48 HB H1 hd
          go_wp2_with fail
          refine (digit_yes _ _ (by omega)).mono ?_
          rintro e w' ⟨rfl, rfl⟩
          clear hd'
          go_wp2_with fail
          refine (skip_any s i1 _ hs hi1).mono ?_
          rintro e w' ⟨j, rfl, hj, hj2, rfl⟩
          have HJ : Hid (S2 (bt s) i1 j) := H2.out j hj
          clear hj H2
          go_wp2
          go_meet
          case rel => exact ⟨j, _, rfl, hj2, HJ.out, rfl⟩
        · have hd' := hd
          unfold isD at hd'
          rw [HB.out] at hd'
          have HN : Hid (∀ t, ¬ Num (bt s) off t) := no_int H1.out h48 hd
          clear h48 HB H1 hd
          go_wp2_with fail
          refine (digit_no _ _ (by omega)).mono ?_
          rintro e w' ⟨rfl, rfl⟩
          clear hd'
          go_wp2
          go_ret
          exact Or.inr ⟨rfl, HN.out, _, rfl⟩
    case rest =>
      obtain ⟨i2, n2, rfl, hi2, h2, rfl⟩ := hcut
      have H2 : Hid (S2 (bt s) i1 i2) := h2
      clear h2
      go_upto_region 9 with fail
      go_cut [4, 57] (fun s4 s57 wc => s4 = .int .i64 i2 ∧ s57 = .bool (is46 s i2) ∧ wc = w.drewN n2)
      case first =>
        by_cases hlt : i2 < s.size
        case neg =>
          have hd : decide (i2 < s.size) = false := decide_eq_false hlt
          have HE : Hid (false = is46 s i2) := by show false = is46 s i2; unfold is46; rw [bt_end s i2 (by omega)]; rfl
          go_wp2
          go_meet
          case rel => exact ⟨rfl, bool_eq HE.out, rfl⟩
        have hlt' : (i2 : Int) < s.size := by omega
        have HE : Hid (((s[i2].toNat : Int) == 46) = is46 s i2) := by
          show _ = _
          unfold is46
          rw [bt_lt s i2 hlt, Bool.eq_iff_iff]
          simp only [beq_iff_eq, decide_eq_true_eq]
          omega
        go_wp2
        go_meet
        case rel => exact ⟨rfl, bool_eq HE.out, rfl⟩
      case rest =>
        obtain ⟨rfl, rfl, rfl⟩ := hcut
        go_upto_if 57 with fail
        go_cut [4] (fun s4 wc => ∃ i3 n : Nat, s4 = .int .i64 i3 ∧ i3 ≤ s.size ∧ S3 (bt s) i2 i3 ∧ wc = w.drewN n)
        case first =>
          cases hb : is46 s i2 with
          | false =>
            have H3 : Hid (S3 (bt s) i2 i2) := Or.inr ⟨of_decide_eq_false hb, rfl⟩
            clear hb
            go_wp2
            go_meet
            case rel => exact ⟨i2, _, rfl, hi2, H3.out, rfl⟩
          | true =>
            have hb' : Hid (bt s i2 = 46) := (of_decide_eq_true hb : bt s i2 = 46)
            clear hb
            have hlt : i2 < s.size := by
              rcases Nat.lt_or_ge i2 s.size with e | e
              · exact e
              · have := hb'.out; rw [bt_end s i2 e] at this; omega
            go_wp2_with fail
            rw [show ((i2 : Int) + 1) = ((i2 + 1 : Nat) : Int) from by omega]
            refine (skip_any s (i2 + 1) _ hs (by omega)).mono ?_
            rintro e w' ⟨j, rfl, hj, hj2, rfl⟩
            have HJ : Hid (Skp (bt s) (i2 + 1) j) := hj
            clear hj
            by_cases hji : j = i2 + 1
            · have HN : Hid (∀ t, ¬ Num (bt s) off t) := no_frac H1.out H2.out hb'.out (by have := HJ.out; rw [hji] at this; exact this)
              have hd : ((j : Int) == (i2 : Int) + 1) = true := by rw [beq_iff_eq]; omega
              clear hji HJ H1 H2
              go_wp2
              go_ret
              exact Or.inr ⟨rfl, HN.out, _, rfl⟩
            · have H3 : Hid (S3 (bt s) i2 j) := Or.inl ⟨hb'.out, HJ.out, hji⟩
              have hd : ((j : Int) == (i2 : Int) + 1) = false := by rw [beq_eq_false_iff_ne]; omega
              clear hji HJ
              go_wp2
              go_meet
              case rel => exact ⟨j, _, rfl, hj2, H3.out, rfl⟩
        case rest =>
          obtain ⟨i3, n3, rfl, hi3, h3, rfl⟩ := hcut
          have H3 : Hid (S3 (bt s) i2 i3) := h3
          clear h3
          go_upto_region 14 with fail
          go_cut [4, 82] (fun s4 s82 wc => s4 = .int .i64 i3 ∧ s82 = .bool (isE s i3) ∧ wc = w.drewN n3)
          case first =>
            by_cases hlt : i3 < s.size
            case neg =>
              have hd : decide (i3 < s.size) = false := decide_eq_false hlt
              have HE : Hid (false = isE s i3) := by show false = isE s i3; unfold isE; rw [bt_end s i3 (by omega)]; rfl
              go_wp2
              go_meet
              case rel => exact ⟨rfl, bool_eq HE.out, rfl⟩
            have hlt' : (i3 : Int) < s.size := by omega
            have HB : Hid (bt s i3 = s[i3].toNat) := bt_lt s i3 hlt
            by_cases h101 : bt s i3 = 101
            · have hb : ((s[i3].toNat : Int) == 101) = true := by rw [beq_iff_eq]; have := HB.out; omega
              have HE : Hid (true = isE s i3) := (decide_eq_true (Or.inl h101)).symm
              clear h101
              go_wp2
              go_meet
              case rel => exact ⟨rfl, bool_eq HE.out, rfl⟩
            · have hb : ((s[i3].toNat : Int) == 101) = false := by rw [beq_eq_false_iff_ne]; have := HB.out; omega
              by_cases h69 : bt s i3 = 69
              · have hb2 : ((s[i3].toNat : Int) == 69) = true := by rw [beq_iff_eq]; have := HB.out; omega
                have HE : Hid (true = isE s i3) := (decide_eq_true (Or.inr h69)).symm
                clear h101 h69
                go_wp2
                go_meet
                case rel => exact ⟨rfl, bool_eq HE.out, rfl⟩
              · have hb2 : ((s[i3].toNat : Int) == 69) = false := by rw [beq_eq_false_iff_ne]; have := HB.out; omega
                have HE : Hid (false = isE s i3) := (decide_eq_false (by omega)).symm
                clear h101 h69
                go_wp2
                go_meet
                case rel => exact ⟨rfl, bool_eq HE.out, rfl⟩
          case rest =>
            obtain ⟨rfl, rfl, rfl⟩ := hcut
            go_upto_if 82 with fail
            go_cut [4] (fun s4 wc => ∃ t n : Nat, s4 = .int .i64 t ∧ S4 (bt s) i3 t ∧ wc = w.drewN n)
            case first =>
              cases hb : isE s i3 with
              | false =>
                have H4 : Hid (S4 (bt s) i3 i3) := Or.inr ⟨(of_decide_eq_false hb : ¬ (bt s i3 = 101 ∨ bt s i3 = 69)), rfl⟩
                clear hb
                go_wp2
                go_meet
                case rel => exact ⟨i3, _, rfl, H4.out, rfl⟩
              | true =>
                have hb' : Hid (bt s i3 = 101 ∨ bt s i3 = 69) := (of_decide_eq_true hb : bt s i3 = 101 ∨ bt s i3 = 69)
                have hlt : i3 < s.size := by
                  rcases Nat.lt_or_ge i3 s.size with e | e
                  · exact e
                  · have := hb'.out; rw [bt_end s i3 e] at this; omega
                go_upto_region 16 with fail
                clear hb
                go_cut [4, 100] (fun s4 s100 wc => s4 = .int .i64 ((i3 + 1 : Nat) : Int) ∧ s100 = .bool (isS s (i3 + 1)) ∧ wc = w.drewN n3)
                case first =>
                  have hc : (i3 : Int) + 1 = ((i3 + 1 : Nat) : Int) := by omega
                  by_cases hlt2 : i3 + 1 < s.size
                  case neg =>
                    have hd : decide ((i3 : Int) + 1 < s.size) = false := decide_eq_false (by omega)
                    have HE : Hid (false = isS s (i3 + 1)) := by show false = isS s (i3 + 1); unfold isS; rw [bt_end s (i3 + 1) (by omega)]; rfl
                    clear hc
                    go_wp2
                    go_meet
                    case rel => exact ⟨by go_num, bool_eq HE.out, rfl⟩
                  clear hc
                  have hlt' : (i3 : Int) + 1 < s.size := by omega
                  have HB : Hid (bt s (i3 + 1) = s[i3 + 1].toNat) := bt_lt s (i3 + 1) hlt2
                  have hn : ((i3 : Int) + 1).toNat = i3 + 1 := by omega
                  by_cases h43 : bt s (i3 + 1) = 43
                  · have hb : ((s[i3 + 1].toNat : Int) == 43) = true := by rw [beq_iff_eq]; have := HB.out; omega
                    have HE : Hid (true = isS s (i3 + 1)) := (decide_eq_true (Or.inl h43)).symm
                    clear h43
                    go_wp2
                    go_meet
                    case rel => exact ⟨by go_num, bool_eq HE.out, rfl⟩
                  · have hb : ((s[i3 + 1].toNat : Int) == 43) = false := by rw [beq_eq_false_iff_ne]; have := HB.out; omega
                    by_cases h45 : bt s (i3 + 1) = 45
                    · have hb2 : ((s[i3 + 1].toNat : Int) == 45) = true := by rw [beq_iff_eq]; have := HB.out; omega
                      have HE : Hid (true = isS s (i3 + 1)) := (decide_eq_true (Or.inr h45)).symm
                      clear h43 h45
                      go_wp2
                      go_meet
                      case rel => exact ⟨by go_num, bool_eq HE.out, rfl⟩
                    · have hb2 : ((s[i3 + 1].toNat : Int) == 45) = false := by rw [beq_eq_false_iff_ne]; have := HB.out; omega
                      have HE : Hid (false = isS s (i3 + 1)) := (decide_eq_false (by omega)).symm
                      clear h43 h45
                      go_wp2
                      go_meet
                      case rel => exact ⟨by go_num, bool_eq HE.out, rfl⟩
                case rest =>
                  obtain ⟨rfl, rfl, rfl⟩ := hcut
                  go_upto_if 100 with fail
                  go_cut [4] (fun s4 wc => ∃ i5 : Nat, s4 = .int .i64 i5 ∧ i5 ≤ s.size ∧ S5 (bt s) (i3 + 1) i5 ∧ wc = w.drewN n3)
                  case first =>
                    cases hbs : isS s (i3 + 1) with
                    | false =>
                      have H5 : Hid (S5 (bt s) (i3 + 1) (i3 + 1)) := Or.inr ⟨(of_decide_eq_false hbs : ¬ (bt s (i3 + 1) = 43 ∨ bt s (i3 + 1) = 45)), rfl⟩
                      clear hbs
                      go_wp2
                      go_meet
                      case rel => exact ⟨i3 + 1, by go_num, by omega, H5.out, rfl⟩
                    | true =>
                      have hs' : bt s (i3 + 1) = 43 ∨ bt s (i3 + 1) = 45 := of_decide_eq_true hbs
                      have hlt2 : i3 + 1 < s.size := by
                        rcases Nat.lt_or_ge (i3 + 1) s.size with e | e
                        · exact e
                        · rw [bt_end s (i3 + 1) e] at hs'; omega
                      have H5 : Hid (S5 (bt s) (i3 + 1) (i3 + 1 + 1)) := Or.inl ⟨hs', rfl⟩
                      clear hbs hs'
                      go_wp2
                      go_meet
                      case rel => exact ⟨i3 + 1 + 1, by go_num, by omega, H5.out, rfl⟩
                  case rest =>
                    obtain ⟨i5, rfl, hi5, h5, rfl⟩ := hcut
                    have H5 : Hid (S5 (bt s) (i3 + 1) i5) := h5
                    clear h5
                    go_wp2_with fail
                    refine (skip_any s i5 _ hs hi5).mono ?_
                    rintro e w' ⟨j, rfl, hj, hj2, rfl⟩
                    have HJ : Hid (Skp (bt s) i5 j) := hj
                    clear hj
                    by_cases hji : j = i5
                    · have HN : Hid (∀ t, ¬ Num (bt s) off t) := no_exp H1.out H2.out H3.out hb'.out H5.out (by have := HJ.out; rw [hji] at this; exact this)
                      have hd : ((j : Int) == (i5 : Int)) = true := by rw [beq_iff_eq]; omega
                      clear hji HJ H1 H2 H3 H5
                      go_wp2
                      go_ret
                      exact Or.inr ⟨rfl, HN.out, _, rfl⟩
                    · have H4 : Hid (S4 (bt s) i3 j) := Or.inl ⟨hb'.out, i5, H5.out, HJ.out, hji⟩
                      have hd : ((j : Int) == (i5 : Int)) = false := by rw [beq_eq_false_iff_ne]; omega
                      clear hji HJ H5
                      go_wp2
                      go_meet
                      case rel => exact ⟨j, _, rfl, H4.out, rfl⟩
            case rest =>
              obtain ⟨t, n4, rfl, h4, rfl⟩ := hcut
              have HN : Hid (Num (bt s) off t) := ⟨i1, i2, i3, H1.out, H2.out, H3.out, h4⟩
              clear h4 H1 H2 H3
              go_wp2
              go_ret
              exact Or.inl ⟨t, rfl, HN.out, _, rfl⟩
end Go.Proofs.Qxb6000480a
