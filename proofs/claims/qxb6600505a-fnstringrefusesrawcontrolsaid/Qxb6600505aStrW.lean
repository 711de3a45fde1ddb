/-
  THE WALKS OF isHex, special, load64.
-/
import Derived.Test.Qxb6600505aChecked
import Derived.Test.Qxb6600505aStr
import Derived.Test.Qxb6600505aWord
import Derived.WalkKit
import Derived.ProofKit
import Derived.WalkSpells
import Derived.Deep.DeepCutAuto
import Derived.Deep.QuietTactic
import Derived.BigQuiet
import Derived.Laws.BitsAllLaws
import Derived.Lib.EndianBits
namespace Go.Proofs.Qxb6600505a
open Go.ChangeShapes Go.WideShapes Go.ChangeAt Go.RowKit
open Str Word

theorem retb {a b : Bool} (h : a = b) : Ending.returned (.bool a) = .returned (.bool b) := by rw [h]

theorem hex_cases (c : Int) : (c < 48 ∨ (48 ≤ c ∧ c ≤ 57) ∨ (57 < c ∧ c < 65) ∨ (65 ≤ c ∧ c ≤ 70) ∨ (70 < c ∧ c < 97) ∨ (97 ≤ c ∧ c ≤ 102) ∨ 102 < c) := by omega

set_option maxHeartbeats 400000 in
theorem hex_any (c : Int) (w : World) :
    Calls Try.prog 39 #[.int .u8 c] w fun e w' => e = .returned (.bool (hexB c)) ∧ w' = w := by
  rcases hex_cases c with h | h | h | h | h | h | h
  all_goals
    go_enter Try.func39, Try.ntmps39
    go_wp2
    go_ret
    refine ⟨retb ?_, rfl⟩
    rw [Bool.eq_iff_iff]
    simp only [hexB, Bool.or_eq_true, Bool.and_eq_true, decide_eq_true_eq, Bool.false_eq_true, true_iff, false_iff]
    omega

theorem nz_eq (x n : Nat) (m : Int) (hm : m = n) (hx : x < 18446744073709551616) (hn : n ≤ 18446744073709551616) :
    bits .andNot .u64 (IntKind.u64.wrap ((x : Int) - m)) x = ((nz x n : Nat) : Int) := by
  have e : IntKind.u64.wrap ((x : Int) - m) = ((sub64 x n : Nat) : Int) := by
    rw [IntKind.wrap_u64, hm]; unfold sub64; omega
  have hs : sub64 x n < 18446744073709551616 := Nat.mod_lt _ (by omega)
  rw [e, u64_andNot_nat _ _ hs hx]
  rfl

theorem xor_eq (x k : Nat) (m : Int) (hm : m = k) (hx : x < 18446744073709551616) (hk : k < 18446744073709551616) :
    bits .xor .u64 (x : Int) m = ((x ^^^ k : Nat) : Int) := by
  rw [hm, u64_xor_nat _ _ hx hk]

theorem nz_lt (x n : Nat) : nz x n < 18446744073709551616 :=
  Nat.lt_of_le_of_lt Nat.and_le_left (Nat.mod_lt _ (by omega))

theorem xor64_lt {x k : Nat} (hx : x < 18446744073709551616) (hk : k < 18446744073709551616) : x ^^^ k < 18446744073709551616 :=
  Nat.xor_lt_two_pow (n := 64) hx hk

theorem or64_lt {x k : Nat} (hx : x < 18446744073709551616) (hk : k < 18446744073709551616) : x ||| k < 18446744073709551616 :=
  Nat.or_lt_two_pow (n := 64) hx hk

theorem and_eq (x k : Nat) (m : Int) (hm : m = k) (hx : x < 18446744073709551616) (hk : k < 18446744073709551616) :
    bits .and .u64 (x : Int) m = ((x &&& k : Nat) : Int) := by
  rw [hm, u64_and_nat _ _ hx hk]

theorem ne_zero_cast (n : Nat) : (((n : Nat) : Int) != 0) = (n != 0) := by
  rw [Bool.eq_iff_iff, bne_iff_ne, bne_iff_ne]; omega

theorem spec_eq (x : Nat) (hx : x < 18446744073709551616) :
    (bits BinOp.and IntKind.u64
      (bits BinOp.or IntKind.u64
        (bits BinOp.or IntKind.u64
          (bits BinOp.andNot IntKind.u64 (IntKind.u64.wrap ((x : Int) - 2314885530818453536)) x)
          (bits BinOp.andNot IntKind.u64
            (IntKind.u64.wrap (bits BinOp.xor IntKind.u64 (x : Int) 2459565876494606882 - 72340172838076673))
            (bits BinOp.xor IntKind.u64 (x : Int) 2459565876494606882)))
        (bits BinOp.andNot IntKind.u64
          (IntKind.u64.wrap (bits BinOp.xor IntKind.u64 (x : Int) 6655295901103053916 - 72340172838076673))
          (bits BinOp.xor IntKind.u64 (x : Int) 6655295901103053916)))
      9259542123273814144 != 0) = specB x := by
  rw [xor_eq x 2459565876494606882 _ (by omega) hx (by omega), xor_eq x 6655295901103053916 _ (by omega) hx (by omega),
    nz_eq x 2314885530818453536 _ (by omega) hx (by omega),
    nz_eq (x ^^^ 2459565876494606882) 72340172838076673 _ (by omega) (xor64_lt hx (by omega)) (by omega),
    nz_eq (x ^^^ 6655295901103053916) 72340172838076673 _ (by omega) (xor64_lt hx (by omega)) (by omega),
    u64_or_nat _ _ (nz_lt _ _) (nz_lt _ _), u64_or_nat _ _ (or64_lt (nz_lt _ _) (nz_lt _ _)) (nz_lt _ _),
    and_eq _ 9259542123273814144 _ (by omega) (or64_lt (or64_lt (nz_lt _ _) (nz_lt _ _)) (nz_lt _ _)) (by omega), ne_zero_cast]
  rfl

set_option maxRecDepth 100000 in
set_option maxHeartbeats 400000 in
theorem special_any (x : Nat) (w : World) (hx : (x : Int) < 18446744073709551616) :
    Calls Try.prog 37 #[.int .u64 x] w fun e w' => e = .returned (.bool (specB x)) ∧ w' = w := by
  go_enter Try.func37, Try.ntmps37
  go_wp2
  go_ret
  exact ⟨retb (spec_eq x (by omega)), rfl⟩


/-- The eight bytes from s[p] on. -/
def eight (s : ByteArray) (p : Nat) : List Nat := (s.extract p (p + 8)).data.toList.map (·.toNat)

theorem or_chain (b0 b1 b2 b3 b4 b5 b6 b7 : Nat) (h0 : b0 < 256) (h1 : b1 < 256) (h2 : b2 < 256) (h3 : b3 < 256) (h4 : b4 < 256) (h5 : b5 < 256) (h6 : b6 < 256) (h7 : b7 < 256) :
    bits BinOp.or IntKind.u64 (bits BinOp.or IntKind.u64 (bits BinOp.or IntKind.u64 (bits BinOp.or IntKind.u64 (bits BinOp.or IntKind.u64 (bits BinOp.or IntKind.u64 (bits BinOp.or IntKind.u64
      (IntKind.u64.wrap (b0 : Int)) (IntKind.u64.wrap (IntKind.u64.wrap (b1 : Int) * 256))) (IntKind.u64.wrap (IntKind.u64.wrap (b2 : Int) * 65536)))
      (IntKind.u64.wrap (IntKind.u64.wrap (b3 : Int) * 16777216))) (IntKind.u64.wrap (IntKind.u64.wrap (b4 : Int) * 4294967296)))
      (IntKind.u64.wrap (IntKind.u64.wrap (b5 : Int) * 1099511627776))) (IntKind.u64.wrap (IntKind.u64.wrap (b6 : Int) * 281474976710656)))
      (IntKind.u64.wrap (IntKind.u64.wrap (b7 : Int) * 72057594037927936)) = ((val [b0, b1, b2, b3, b4, b5, b6, b7] : Nat) : Int) := by
  have hv : ((val [b0, b1, b2, b3, b4, b5, b6, b7] : Nat) : Int) = (b0 : Int) + (b1 : Int) * 256 + (b2 : Int) * 65536 + (b3 : Int) * 16777216 + (b4 : Int) * 4294967296 + (b5 : Int) * 1099511627776 + (b6 : Int) * 281474976710656 + (b7 : Int) * 72057594037927936 := by
    simp only [val]
    omega
  rw [hv]
  simp (disch := omega) only [u64_wrap_id, u64_or8, u64_or16, u64_or24, u64_or32, u64_or40, u64_or48, u64_or56]

theorem eight_of (x : ByteArray) (h : x.size = 8) :
    x.data.toList.map (·.toNat) = [x[0].toNat, x[1].toNat, x[2].toNat, x[3].toNat, x[4].toNat, x[5].toNat, x[6].toNat, x[7].toNat] := by
  obtain ⟨⟨l⟩⟩ := x
  match l, h with
  | [_, _, _, _, _, _, _, _], _ => rfl

theorem eight_len (s : ByteArray) (p : Nat) (h : p + 8 ≤ s.size) : (eight s p).length = 8 := by
  unfold eight
  rw [List.length_map, Array.length_toList]
  show (s.extract p (p + 8)).size = 8
  rw [ByteArray.size_extract]; omega

theorem eight_lt (s : ByteArray) (p : Nat) : ∀ c ∈ eight s p, c < 256 := by
  intro c hc
  obtain ⟨b, _, rfl⟩ := List.mem_map.mp hc
  exact b.toNat_lt

theorem eight_mem (s : ByteArray) (p j : Nat) (hj : j < 8) (hl : p + j < s.size) : s[p + j].toNat ∈ eight s p := by
  unfold eight
  rw [ByteArray.data_extract, Array.toList_extract]
  refine List.mem_map.mpr ⟨s[p + j], ?_, rfl⟩
  have hl' : p + j < s.data.toList.length := by rw [Array.length_toList]; exact hl
  have e : ((s.data.toList.drop p).take (p + 8 - p))[j]? = some s[p + j] := by
    rw [List.getElem?_take_of_lt (by omega), List.getElem?_drop, List.getElem?_eq_getElem hl']
    rfl
  exact List.mem_of_getElem? e

/-- Where 'special' says no, the eight bytes are plain. -/
theorem eight_plain (s : ByteArray) (p : Nat) (h : p + 8 ≤ s.size) (hb : specB (val (eight s p)) = false) : strAt s 0 p = strAt s 0 (p + 8) := by
  refine skip_plain 8 s p h (fun j hl hj => ?_)
  have := plain_of (eight s p) (eight_len s p h) (eight_lt s p) hb _ (eight_mem s p j hj hl)
  omega

theorem eight_bound (s : ByteArray) (p : Nat) (h : p + 8 ≤ s.size) : val (eight s p) < 18446744073709551616 := by
  have := val_lt (eight s p) (eight_lt s p)
  rw [eight_len s p h] at this
  simpa using this

theorem load_eq (x : ByteArray) (h : x.size = 8) :
    bits BinOp.or IntKind.u64 (bits BinOp.or IntKind.u64 (bits BinOp.or IntKind.u64 (bits BinOp.or IntKind.u64 (bits BinOp.or IntKind.u64 (bits BinOp.or IntKind.u64 (bits BinOp.or IntKind.u64
      (IntKind.u64.wrap (x[0].toNat : Int)) (IntKind.u64.wrap (IntKind.u64.wrap (x[1].toNat : Int) * 256))) (IntKind.u64.wrap (IntKind.u64.wrap (x[2].toNat : Int) * 65536)))
      (IntKind.u64.wrap (IntKind.u64.wrap (x[3].toNat : Int) * 16777216))) (IntKind.u64.wrap (IntKind.u64.wrap (x[4].toNat : Int) * 4294967296)))
      (IntKind.u64.wrap (IntKind.u64.wrap (x[5].toNat : Int) * 1099511627776))) (IntKind.u64.wrap (IntKind.u64.wrap (x[6].toNat : Int) * 281474976710656)))
      (IntKind.u64.wrap (IntKind.u64.wrap (x[7].toNat : Int) * 72057594037927936)) = ((val (x.data.toList.map (·.toNat)) : Nat) : Int) := by
  rw [eight_of x h]
  exact or_chain _ _ _ _ _ _ _ _ (UInt8.toNat_lt _) (UInt8.toNat_lt _) (UInt8.toNat_lt _) (UInt8.toNat_lt _) (UInt8.toNat_lt _) (UInt8.toNat_lt _) (UInt8.toNat_lt _) (UInt8.toNat_lt _)

theorem ret_u64 {a b : Int} (h : a = b) : Ending.returned (.int .u64 a) = .returned (.int .u64 b) := by rw [h]

set_option maxRecDepth 100000 in
set_option maxHeartbeats 1000000 in
theorem load_any (s : ByteArray) (p : Nat) (w : World) (hs : (s.size : Int) ≤ 2000000) (hp : (p : Int) + 8 ≤ s.size) :
    Calls Try.prog 38 #[.string s, .int .i64 p] w fun e w' => e = .returned (.int .u64 (val (eight s p))) ∧ ∃ n, w' = w.drewN n := by
  have z : (s.extract p (p + 8)).size = 8 := by rw [ByteArray.size_extract]; omega
  go_enter Try.func38, Try.ntmps38
  go_wp2
  go_quiet (fail)
  go_wp2
  go_ret
  exact ⟨ret_u64 (load_eq (s.extract p (p + 8)) z), _, rfl⟩

end Go.Proofs.Qxb6600505a
