/-
  The walk of FnNumberTokenStandsAlone.
-/
import Derived.Test.Qxb6000480aZz
namespace Go.Proofs.Qxb6000480a
open Go.RowKit

theorem tok_size (s : ByteArray) (a b : Nat) (h1 : a ≤ b) (h2 : b ≤ s.size) : (s.extract a b).size = b - a := by
  rw [ByteArray.size_extract]; omega
theorem tok_bt (s : ByteArray) (a b k : Nat) (h1 : a ≤ b) (h2 : b ≤ s.size) (hk : k < b - a) : bt (s.extract a b) k = bt s (a + k) := by
  rw [bt_lt _ k (by rw [tok_size s a b h1 h2]; exact hk), bt_lt s (a + k) (by omega)]
  simp [ByteArray.getElem_extract]

theorem com_size (s : ByteArray) : (s ++ (⟨#[44]⟩ : ByteArray)).size = s.size + 1 := by
  rw [ByteArray.size_append]; rfl
theorem com_bt (s : ByteArray) (k : Nat) (hk : k < s.size) : bt (s ++ (⟨#[44]⟩ : ByteArray)) k = bt s k := by
  rw [bt_lt _ k (by rw [com_size]; omega), bt_lt s k hk, ByteArray.getElem_append_left hk]
theorem com_end (s : ByteArray) : bt (s ++ (⟨#[44]⟩ : ByteArray)) s.size = 44 := by
  rw [bt_lt _ s.size (by rw [com_size]; omega), ByteArray.getElem_append_right (Nat.le_refl _)]
  simp only [Nat.sub_self]
  rfl

set_option maxHeartbeats 2000000 in
theorem law7 (s : ByteArray) (off : Int) (w : World) (h : s.size ≤ maxLen) : Calls Try.prog 7 #[.string s, .int .i64 off] w fun e w' => LEnd w e w' := by
  go_enter Try.func7, Try.ntmps7
  go_wp2_with fail
  refine (bytes19 s off w h).mono ?_
  rintro e w' ⟨bb, rfl, hS, rfl⟩
  rename World => w
  cases bb with
  | false =>
    go_wp2
    go_ret
    exact lend (Grown.refl _)
  | true =>
  have hs := hS rfl
  clear hS h
  by_cases h0 : 0 ≤ off
  case neg =>
    have hd : decide (off < 0) = true := decide_eq_true (by omega)
    go_wp2
    go_ret
    exact lend (Grown.refl _)
  have hd0 : decide (off < 0) = false := decide_eq_false (by omega)
  by_cases h1 : off < s.size
  case neg =>
    have hd1 : decide ((s.size : Int) ≤ off) = true := decide_eq_true (by omega)
    go_wp2
    go_ret
    exact lend (Grown.refl _)
  obtain ⟨o, rfl⟩ := Int.eq_ofNat_of_zero_le h0
  have hd1 : decide (s.size ≤ o) = false := decide_eq_false (by omega)
  go_wp2_with fail
  refine (zz_any s o w (by omega) (by omega)).mono ?_
  rintro e w1 ⟨hg, ⟨t, rfl, hN⟩ | ⟨t, rfl, hN⟩⟩
  case inr =>
    clear hN
    go_wp2
    go_ret
    exact lend hg
  have HN : Hid (Num (bt s) o t) := hN
  obtain ⟨n1, n2⟩ := Num_nonempty hN (by omega)
  clear hN
  have hd2 : decide (t ≤ o) = false := decide_eq_false (by omega)
  have hd3 : decide (s.size < t) = false := decide_eq_false (by omega)
  go_wp2_with fail
  have ksz := tok_size s o t (by omega) n2
  have kbt := fun k hk => tok_bt s o t k (by omega) n2 hk
  generalize s.extract o t = tok at ksz kbt ⊢
  have KN : Hid (Num (bt tok) 0 tok.size) := by
    have h := HN.out
    rw [show t = o + tok.size by omega] at h
    exact h.alone (fun k hk => kbt k (by omega)) (Or.inl (bt_end tok _ (Nat.le_refl _)))
  have KB : Hid (∀ k, k < tok.size → bt tok k = bt s (o + k)) := fun k hk => kbt k (by omega)
  have KH : Hid (Num (bt s) o (o + tok.size)) := by
    have h := HN.out
    rw [show t = o + tok.size by omega] at h
    exact h
  have k1 : tok.size ≤ 1048576 := by omega
  have k0 : 0 < tok.size := by omega
  clear kbt HN ksz
  refine (zz_any tok 0 w1 (by omega) (by omega)).mono ?_
  rintro e w2 ⟨hg2, ⟨t2, rfl, hN⟩ | ⟨t2, rfl, hN⟩⟩
  case inr => exact absurd KN.out (hN _)
  obtain rfl : tok.size = t2 := KN.out.uniq hN
  have hd4 : ((tok.size : Int) != (tok.size : Int)) = false := by simp
  clear hN
  go_wp2_with fail
  have csz := com_size tok
  have cbt := com_bt tok
  have cend := com_end tok
  generalize tok ++ (⟨#[44]⟩ : ByteArray) = com at csz cbt cend ⊢
  have CN : Hid (Num (bt com) 0 tok.size) := KH.out.alone (fun k hk => by rw [cbt k hk]; exact KB.out k hk) (Or.inr cend)
  have c1 : com.size ≤ 1048577 := by omega
  have c0 : 0 < com.size := by omega
  clear csz cbt cend KH KB KN
  refine (zz_any com 0 w2 c1 c0).mono ?_
  rintro e w3 ⟨hg3, ⟨t3, rfl, hN⟩ | ⟨t3, rfl, hN⟩⟩
  case inr => exact absurd CN.out (hN _)
  obtain rfl : tok.size = t3 := CN.out.uniq hN
  have hd5 : ((tok.size : Int) == (tok.size : Int)) = true := by simp
  clear hN
  go_wp2
  go_ret
  exact lend (grown_trans (grown_trans hg hg2) hg3)
end Go.Proofs.Qxb6000480a
