/-
  THE WALK OF FnStringRefusesRawControl.
-/
import Derived.Test.Qxb6600505aEscW
import Derived.Test.Qxb6600505aStrC
namespace Go.Proofs.Qxb6600505a
open Go.ChangeShapes Go.WideShapes Go.ChangeAt Go.RowKit
open Str

set_option maxHeartbeats 400000 in
theorem bytes20_yes (a : ByteArray) (i c : Int) (b : ByteArray) (w : World) (h : (a.size : Int) + b.size ≤ 1048576) :
    Calls Try.prog 20 #[.string a, .int .i64 i, .int .u8 c, .string b] w fun e w' => e = .returned (.bool true) ∧ w' = w := by
  go_enter Try.func20, Try.ntmps20
  go_wp2
  go_ret
  exact ⟨rfl, rfl⟩

set_option maxHeartbeats 400000 in
theorem bytes20_no (a : ByteArray) (i c : Int) (b : ByteArray) (w : World) (ha : a.size ≤ maxLen) (hb : b.size ≤ maxLen) (h : 1048576 < (a.size : Int) + b.size) :
    Calls Try.prog 20 #[.string a, .int .i64 i, .int .u8 c, .string b] w fun e w' => e = .returned (.bool false) ∧ w' = w := by
  unfold maxLen at ha hb
  go_enter Try.func20, Try.ntmps20
  go_wp2
  all_goals (go_ret; exact ⟨rfl, rfl⟩)

theorem raw_len (L : List UInt8) (t : ByteArray) : (L ++ t.data.toList).length = L.length + t.size := by
  rw [List.length_append]; congr 1

theorem below_dn {B : Nat} {a w : World} (h : Below B a w) (n : Nat) : Below B a (w.drewN n) := ⟨h.os, h.tape, h.output, h.size, h.block⟩

/-- The text that is checked: refused. -/
theorem raw_text {w : World} {B : Nat} {v : Value} {E1 E2 : List UInt8} {c : UInt8} {t : ByteArray} (h : Owns w B v (([34] ++ E1 ++ [c] ++ E2 ++ [34]) ++ t.data.toList)) (h1 : Skips E1) (hc : (c.toNat : Int) < 32)
    (hl : (([34] ++ E1 ++ [c] ++ E2 ++ [34]) ++ t.data.toList).length ≤ 2000000) :
    ∃ D : ByteArray, (convert 24 9 v).run Try.prog w = .ok (.string D) w ∧ Hid (∀ w, Calls Try.prog 16 #[.string D, .int .i64 0] w fun e w' => e = .returned (.int .i64 (-1)) ∧ ∃ n, w' = w.drewN n) := by
  generalize hL : ([34] ++ E1 ++ [c] ++ E2 ++ [34]) ++ t.data.toList = L at h hl
  have hL' : L = 34 :: (E1 ++ (c :: (E2 ++ [34] ++ t.data.toList))) := by rw [← hL]; simp
  refine ⟨⟨L.toArray⟩, run_text h (by rw [hL']; simp), fun w => ?_⟩
  have hz : (⟨L.toArray⟩ : ByteArray).size = L.length := by show L.toArray.size = _; simp
  have hr := refused E1 h1 c hc (E2 ++ [34] ++ t.data.toList) 34 ⟨L.toArray⟩ (by simpa using hL')
  have hp : 0 < L.length := by rw [hL']; simp
  have := zzstr_any ⟨L.toArray⟩ 0 w (by rw [hz]; omega) (by rw [hz]; omega)
  rw [show (0 : Nat) + 1 = 1 from rfl, hr] at this
  exact this

set_option maxRecDepth 100000 in
set_option maxHeartbeats 4000000 in
theorem raw_walk (s : ByteArray) (n : Nat) (c : UInt8) (t : ByteArray) (w : World) (hs : (s.size : Int) ≤ 131072) (ht : (t.size : Int) ≤ 524288) (hn : (n : Int) ≤ s.size) (hc : (c.toNat : Int) < 32) :
    Calls Try.prog 8 #[.string s, .int .i64 n, .int .u8 c.toNat, .string t] w fun e w' => e = .returned (.bool true) ∧ Below w.heap.size w w' := by
  obtain ⟨B, hBe⟩ : ∃ B, B = w.heap.size := ⟨_, rfl⟩
  have HBe : Hid (B = w.heap.size) := hBe
  have hB : B ≤ w.heap.size := by omega
  clear hBe
  have z1 : (s.extract 0 n).size = n := by rw [ByteArray.size_extract]; omega
  have z2 : (s.extract n s.size).size = s.size - n := by rw [ByteArray.size_extract]; omega
  go_enter Try.func8, Try.ntmps8
  go_wp2_with fail
  refine (bytes20_yes _ _ _ _ _ (by omega)).mono ?_
  rintro e w0 ⟨rfl, rfl⟩
  -- make([]byte, 0, 6*len(s)+3+len(tail))
  go_wp2_with (at_make; refine wpList_mk rfl _ _ rfl B _ (6 * s.size + 3 + t.size) rfl rfl ?m1 ?m2 hB ?_)
  case m1 => omega
  case m2 => omega
  intro v1 w1 ho1 hb1
  have hB1 : B ≤ w1.heap.size := Nat.le_trans hB hb1.size
  -- the opening quote
  go_wp2_with (at_builtin; refine wpList_app rfl _ _ rfl B _ [] [34] rfl (ho1.alloc _) w1.heap.size 1 rfl rfl (new_cells w1 _ [34] rfl) (by decide) (base_ok hB1 _) ?_)
  intro v2 w2 ho2 hb2
  have ho2' : Owns w2 B v2 [34] := ho2
  have hb02 : Below B w0 w2 := (hb1.alloc hB1 _).trans hb2
  have hB2 : B ≤ w2.heap.size := Nat.le_trans hB hb02.size
  clear ho1 hb1 hB1 ho2 hb2
  -- the escapes of s[:k]
  go_wp2_with fail
  refine (esc_app (s.extract 0 n) B v2 [34] w2 ho2' hB2 (by decide) (by omega)).mono ?_
  rintro e w3 ⟨v3, rfl, E1, ho3, hk1, hE1, hb3, hB3⟩
  have hE1' : E1.length ≤ 6 * n := by rw [z1] at hE1; exact hE1
  have hb03 : Below B w0 w3 := hb02.trans hb3
  have HN3 : Hid (([34] ++ E1).length ≤ 6 * n + 1) := by
    show ([34] ++ E1).length ≤ 6 * n + 1
    rw [List.length_append]; show 1 + E1.length ≤ _; omega
  have HL3 : Hid (([34] ++ E1).length + [c].length ≤ 4000000) := by
    show ([34] ++ E1).length + 1 ≤ 4000000
    have := HN3.out; omega
  clear ho2' hB2 hb02 hb3 hE1
  -- the raw control byte
  go_wp2_with (at_builtin; refine wpList_app rfl _ _ rfl B _ ([34] ++ E1) [c] rfl (ho3.alloc _) w3.heap.size 1 rfl rfl (new_cells w3 _ [c] rfl) HL3 (base_ok hB3 _) ?_)
  intro v4 w4 ho4 hb4
  have ho4' : Owns w4 B v4 ([34] ++ E1 ++ [c]) := by first | exact ho4 | simpa using ho4
  have hb04 : Below B w0 w4 := (hb03.alloc hB3 _).trans hb4
  have hB4 : B ≤ w4.heap.size := Nat.le_trans hB hb04.size
  have hl4 : (([34] ++ E1 ++ [c]).length : Int) ≤ 2000000 := by
    have h4 : ([34] ++ E1 ++ [c]).length ≤ 6 * n + 2 := by
      rw [List.length_append]; have := HN3.out; show ([34] ++ E1).length + 1 ≤ _; omega
    omega
  clear ho3 hb4 hb03 hB3 ho4 HL3
  -- the escapes of s[k:]
  go_wp2_with fail
  refine (esc_app (s.extract n s.size) B v4 ([34] ++ E1 ++ [c]) w4 ho4' hB4 hl4 (by omega)).mono ?_
  rintro e w5 ⟨v5, rfl, E2, ho5, hk2, hE2, hb5, hB5⟩
  have hE2' : E2.length ≤ 6 * (s.size - n) := by rw [z2] at hE2; exact hE2
  have hb05 : Below B w0 w5 := hb04.trans hb5
  have HN5 : Hid (([34] ++ E1 ++ [c] ++ E2).length ≤ 6 * s.size + 2) := by
    show ([34] ++ E1 ++ [c] ++ E2).length ≤ 6 * s.size + 2
    rw [List.length_append, List.length_append]; have := HN3.out; show ([34] ++ E1).length + 1 + E2.length ≤ _; omega
  have HL5 : Hid (([34] ++ E1 ++ [c] ++ E2).length + [(34 : UInt8)].length ≤ 4000000) := by
    show ([34] ++ E1 ++ [c] ++ E2).length + 1 ≤ 4000000
    have := HN5.out; omega
  clear ho4' hB4 hb04 hb5 hE2 hl4 HN3 hE1' hE2'
  -- the closing quote
  go_wp2_with (at_builtin; refine wpList_app rfl _ _ rfl B _ ([34] ++ E1 ++ [c] ++ E2) [34] rfl (ho5.alloc _) w5.heap.size 1 rfl rfl (new_cells w5 _ [34] rfl) HL5 (base_ok hB5 _) ?_)
  intro v6 w6 ho6 hb6
  have ho6' : Owns w6 B v6 ([34] ++ E1 ++ [c] ++ E2 ++ [34]) := by first | exact ho6 | simpa using ho6
  have hb06 : Below B w0 w6 := (hb05.alloc hB5 _).trans hb6
  have hB6 : B ≤ w6.heap.size := Nat.le_trans hB hb06.size
  have HN6 : Hid (([34] ++ E1 ++ [c] ++ E2 ++ [34]).length ≤ 6 * s.size + 3) := by
    show ([34] ++ E1 ++ [c] ++ E2 ++ [34]).length ≤ 6 * s.size + 3
    rw [List.length_append]; have := HN5.out; show ([34] ++ E1 ++ [c] ++ E2).length + 1 ≤ _; omega
  have HL6 : Hid (([34] ++ E1 ++ [c] ++ E2 ++ [34]).length + t.size ≤ 4000000) := by
    show ([34] ++ E1 ++ [c] ++ E2 ++ [34]).length + t.size ≤ 4000000
    have := HN6.out; omega
  clear ho5 hb6 hb05 hB5 ho6 HL5 HN5
  -- the tail
  go_wp2_with (at_builtin; refine wpList_app_string rfl _ _ rfl B _ ([34] ++ E1 ++ [c] ++ E2 ++ [34]) rfl ho6' t rfl HL6 hB6 ?_)
  intro v7 w7 ho7 hb7
  have ho7' : Owns w7 B v7 (([34] ++ E1 ++ [c] ++ E2 ++ [34]) ++ t.data.toList) := by first | exact ho7 | simpa using ho7
  have hb07 : Below B w0 w7 := hb06.trans hb7
  obtain ⟨D, hcv, HD⟩ := raw_text ho7' hk1 hc (by rw [raw_len]; have := HN6.out; omega)
  clear ho6' hb7 hb06 hB6 ho7 ho7' HL6 HN6 hk1 hk2
  go_wp2_with (go_at_call 16; refine (HD.out _).mono ?_; rintro e w' ⟨rfl, nn, rfl⟩)
  go_ret
  refine ⟨rfl, ?_⟩
  have hBe : B = w0.heap.size := HBe
  rw [← hBe]
  exact below_dn hb07 _

set_option maxHeartbeats 1000000 in
theorem walk8 (s : ByteArray) (i c : Int) (t : ByteArray) (hs : s.size ≤ maxLen) (ht : t.size ≤ maxLen) (hc0 : 0 ≤ c) (hc1 : c ≤ 255) (w : World) :
    Calls Try.prog 8 #[.string s, .int .i64 i, .int .u8 c, .string t] w fun e w' => e = .returned (.bool true) ∧ Below w.heap.size w w' := by
  by_cases hsum : (s.size : Int) + t.size ≤ 1048576
  · by_cases h1 : (s.size : Int) ≤ 131072
    · by_cases h2 : (t.size : Int) ≤ 524288
      · by_cases h3 : i < 0
        · go_enter Try.func8, Try.ntmps8
          go_wp2_with (go_at_call 20; refine (bytes20_yes _ _ _ _ _ hsum).mono ?_; rintro e w' ⟨rfl, rfl⟩)
          go_ret
          exact ⟨rfl, Below.refl _ _⟩
        · by_cases h4 : (s.size : Int) < i
          · go_enter Try.func8, Try.ntmps8
            go_wp2_with (go_at_call 20; refine (bytes20_yes _ _ _ _ _ hsum).mono ?_; rintro e w' ⟨rfl, rfl⟩)
            go_ret
            exact ⟨rfl, Below.refl _ _⟩
          · by_cases h5 : 32 ≤ c
            · go_enter Try.func8, Try.ntmps8
              go_wp2_with (go_at_call 20; refine (bytes20_yes _ _ _ _ _ hsum).mono ?_; rintro e w' ⟨rfl, rfl⟩)
              go_ret
              exact ⟨rfl, Below.refl _ _⟩
            · obtain ⟨n, rfl⟩ : ∃ n : Nat, i = n := ⟨i.toNat, by omega⟩
              obtain ⟨b, rfl⟩ : ∃ b : UInt8, c = b.toNat := ⟨UInt8.ofNat c.toNat, by
                rw [UInt8.toNat_ofNat_of_lt' (by show c.toNat < 256; omega)]; omega⟩
              exact raw_walk s n b t w h1 h2 (by omega) (by omega)
      · go_enter Try.func8, Try.ntmps8
        go_wp2_with (go_at_call 20; refine (bytes20_yes _ _ _ _ _ hsum).mono ?_; rintro e w' ⟨rfl, rfl⟩)
        go_ret
        exact ⟨rfl, Below.refl _ _⟩
    · go_enter Try.func8, Try.ntmps8
      go_wp2_with (go_at_call 20; refine (bytes20_yes _ _ _ _ _ hsum).mono ?_; rintro e w' ⟨rfl, rfl⟩)
      go_ret
      exact ⟨rfl, Below.refl _ _⟩
  · go_enter Try.func8, Try.ntmps8
    go_wp2_with (go_at_call 20; refine (bytes20_no _ _ _ _ _ hs ht (by omega)).mono ?_; rintro e w' ⟨rfl, rfl⟩)
    go_ret
    exact ⟨rfl, Below.refl _ _⟩

end Go.Proofs.Qxb6600505a
