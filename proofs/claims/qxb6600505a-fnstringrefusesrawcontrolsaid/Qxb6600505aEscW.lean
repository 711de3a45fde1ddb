/-
  THE WALK OF lawAppendEscaped.
-/
import Derived.Test.Qxb6600505aOwn
import Derived.Test.Qxb6600505aEsc
import Derived.Deep.Cut
import Derived.Deep.RegionLaw
import Derived.Laws.BitsAllLaws
namespace Go.Proofs.Qxb6600505a
open Go.ChangeShapes Go.WideShapes Go.ChangeAt Go.RowKit
open Str

/-- What holds at every round's head. -/
def EscRel (B : Nat) (w : World) (l : List UInt8) (k : Nat) (v : Value) (wr : World) : Prop :=
  ∃ E, Owns wr B v (l ++ E) ∧ Skips E ∧ E.length ≤ 6 * k ∧ Below B w wr ∧ B ≤ wr.heap.size

theorem esc_step {B : Nat} {w wr W1 w1 : World} {l E news : List UInt8} {k : Nat} {v' : Value} (hsk : Skips E) (hE : E.length ≤ 6 * k) (hbl : Below B w wr) (hBr : B ≤ wr.heap.size)
    (ho : Owns w1 B v' (l ++ (E ++ news))) (hb : Below B W1 w1) (hW : Below B wr W1) (hn : Skips news) (h6 : news.length ≤ 6) : EscRel B w l (k + 1) v' w1 := by
  have hb0 : Below B wr w1 := hW.trans hb
  exact ⟨E ++ news, ho, hsk.append hn, by rw [List.length_append]; omega, hbl.trans hb0, Nat.le_trans hBr hb0.size⟩

theorem len_ok {n m : Nat} (h : n ≤ 3000000) (k : m ≤ 6) : n + m ≤ 4000000 := by omega

theorem base_ok {B : Nat} {w : World} (h : B ≤ w.heap.size) (o : Obj) : B ≤ (w.alloc o).heap.size := by
  have := ((Below.refl B w).alloc h o).size
  omega

theorem and15 (c : UInt8) : bits .and .u8 (c.toNat : Int) 15 = (c.toNat : Int) % 16 := by
  have h : bits .and .u8 (c.toNat : Int) ((15 : Nat) : Int) = ((c.toNat &&& 15 : Nat) : Int) := u8_and_nat c.toNat 15 c.toNat_lt (by omega)
  have e : c.toNat &&& 15 = c.toNat % 16 := Nat.and_two_pow_sub_one_eq_mod c.toNat 4
  rw [e] at h
  have h2 : ((c.toNat % 16 : Nat) : Int) = (c.toNat : Int) % 16 := by omega
  rw [← h2, ← h]
  rfl

/-- The two tables of hex digits. -/
def lowT : ByteArray := ⟨#[48, 49, 50, 51, 52, 53, 54, 55, 56, 57, 97, 98, 99, 100, 101, 102]⟩
def upT : ByteArray := ⟨#[48, 49, 50, 51, 52, 53, 54, 55, 56, 57, 65, 66, 67, 68, 69, 70]⟩

theorem low_hex (i : Nat) (h : i < lowT.size) : hexB (lowT[i].toNat : Int) = true := by
  have H : ∀ j : Fin 16, hexB ((lowT[j.val]'j.isLt).toNat : Int) = true := by decide
  exact H ⟨i, h⟩
theorem up_hex (i : Nat) (h : i < upT.size) : hexB (upT[i].toNat : Int) = true := by
  have H : ∀ j : Fin 16, hexB ((upT[j.val]'j.isLt).toNat : Int) = true := by decide
  exact H ⟨i, h⟩

set_option maxRecDepth 100000 in
set_option maxHeartbeats 4000000 in
theorem esc_app (s : ByteArray) (B : Nat) (v : Value) (l : List UInt8) (w : World) (hown : Owns w B v l) (hB : B ≤ w.heap.size) (hl : (l.length : Int) ≤ 2000000) (hs : (s.size : Int) ≤ 131072) :
    Calls Try.prog 19 #[v, .string s] w fun e w' => ∃ v', e = .returned v' ∧ EscRel B w l s.size v' w' := by
  go_enter Try.func19, Try.ntmps19
  go_wp2
  go_loopg [0, 5] s.size (fun g v0 v5 wr => ∃ k : Nat, k ≤ s.size ∧ s.size ≤ k + g ∧ v5 = .int .i64 k ∧ EscRel B w l k v0 wr)
  case atStart => exact ⟨0, Nat.zero_le _, by omega, rfl, [], by simpa using hown, Skips.nil, by simp, Below.refl _ _, hB⟩
  case round =>
    obtain ⟨k, hk1, hk2, rfl, E, ho, hsk, hE, hbl, hBr⟩ := hrel
    clear hown hB
    by_cases hlt : (k : Int) < s.size
    · have hk : k < s.size := by omega
      have hN : (l ++ E).length ≤ 3000000 := by rw [List.length_append]; omega
      by_cases h34 : (s[k].toNat : Int) = 34
      · go_wp2_with (at_builtin; refine wpList_app rfl _ _ rfl B _ (l ++ E) [92, 34] rfl (ho.alloc _) wr.heap.size 2 rfl rfl (new_cells wr _ [92, 34] rfl) (len_ok hN (by decide)) (base_ok hBr _) ?_)
        intro v' w1 ho' hb'
        have HR := esc_step hsk hE hbl hBr (by first | exact ho' | (rw [← List.append_assoc]; exact ho')) hb' ((Below.refl B wr).alloc hBr _) (skips_letter 34 (by decide)) (by decide)
        clear ho' hb' ho hsk hbl
        go_wp2
        go_roundg (s.size - (k + 1))
        case measure => omega
        case rel => exact ⟨k + 1, by omega, by omega, by go_num, HR⟩
      · by_cases h92 : (s[k].toNat : Int) = 92
        · go_wp2_with (at_builtin; refine wpList_app rfl _ _ rfl B _ (l ++ E) [92, 92] rfl (ho.alloc _) wr.heap.size 2 rfl rfl (new_cells wr _ [92, 92] rfl) (len_ok hN (by decide)) (base_ok hBr _) ?_)
          intro v' w1 ho' hb'
          have HR := esc_step hsk hE hbl hBr (by first | exact ho' | (rw [← List.append_assoc]; exact ho')) hb' ((Below.refl B wr).alloc hBr _) (skips_letter 92 (by decide)) (by decide)
          clear ho' hb' ho hsk hbl
          go_wp2
          go_roundg (s.size - (k + 1))
          case measure => omega
          case rel => exact ⟨k + 1, by omega, by omega, by go_num, HR⟩
        · by_cases h47 : (s[k].toNat : Int) = 47
          · go_wp2_with (at_builtin; refine wpList_app rfl _ _ rfl B _ (l ++ E) [92, 47] rfl (ho.alloc _) wr.heap.size 2 rfl rfl (new_cells wr _ [92, 47] rfl) (len_ok hN (by decide)) (base_ok hBr _) ?_)
            intro v' w1 ho' hb'
            have HR := esc_step hsk hE hbl hBr (by first | exact ho' | (rw [← List.append_assoc]; exact ho')) hb' ((Below.refl B wr).alloc hBr _) (skips_letter 47 (by decide)) (by decide)
            clear ho' hb' ho hsk hbl
            go_wp2
            go_roundg (s.size - (k + 1))
            case measure => omega
            case rel => exact ⟨k + 1, by omega, by omega, by go_num, HR⟩
          · by_cases h8 : (s[k].toNat : Int) = 8
            · go_wp2_with (at_builtin; refine wpList_app rfl _ _ rfl B _ (l ++ E) [92, 98] rfl (ho.alloc _) wr.heap.size 2 rfl rfl (new_cells wr _ [92, 98] rfl) (len_ok hN (by decide)) (base_ok hBr _) ?_)
              intro v' w1 ho' hb'
              have HR := esc_step hsk hE hbl hBr (by first | exact ho' | (rw [← List.append_assoc]; exact ho')) hb' ((Below.refl B wr).alloc hBr _) (skips_letter 98 (by decide)) (by decide)
              clear ho' hb' ho hsk hbl
              go_wp2
              go_roundg (s.size - (k + 1))
              case measure => omega
              case rel => exact ⟨k + 1, by omega, by omega, by go_num, HR⟩
            · by_cases h12 : (s[k].toNat : Int) = 12
              · go_wp2_with (at_builtin; refine wpList_app rfl _ _ rfl B _ (l ++ E) [92, 102] rfl (ho.alloc _) wr.heap.size 2 rfl rfl (new_cells wr _ [92, 102] rfl) (len_ok hN (by decide)) (base_ok hBr _) ?_)
                intro v' w1 ho' hb'
                have HR := esc_step hsk hE hbl hBr (by first | exact ho' | (rw [← List.append_assoc]; exact ho')) hb' ((Below.refl B wr).alloc hBr _) (skips_letter 102 (by decide)) (by decide)
                clear ho' hb' ho hsk hbl
                go_wp2
                go_roundg (s.size - (k + 1))
                case measure => omega
                case rel => exact ⟨k + 1, by omega, by omega, by go_num, HR⟩
              · by_cases h10 : (s[k].toNat : Int) = 10
                · go_wp2_with (at_builtin; refine wpList_app rfl _ _ rfl B _ (l ++ E) [92, 110] rfl (ho.alloc _) wr.heap.size 2 rfl rfl (new_cells wr _ [92, 110] rfl) (len_ok hN (by decide)) (base_ok hBr _) ?_)
                  intro v' w1 ho' hb'
                  have HR := esc_step hsk hE hbl hBr (by first | exact ho' | (rw [← List.append_assoc]; exact ho')) hb' ((Below.refl B wr).alloc hBr _) (skips_letter 110 (by decide)) (by decide)
                  clear ho' hb' ho hsk hbl
                  go_wp2
                  go_roundg (s.size - (k + 1))
                  case measure => omega
                  case rel => exact ⟨k + 1, by omega, by omega, by go_num, HR⟩
                · by_cases h13 : (s[k].toNat : Int) = 13
                  · go_wp2_with (at_builtin; refine wpList_app rfl _ _ rfl B _ (l ++ E) [92, 114] rfl (ho.alloc _) wr.heap.size 2 rfl rfl (new_cells wr _ [92, 114] rfl) (len_ok hN (by decide)) (base_ok hBr _) ?_)
                    intro v' w1 ho' hb'
                    have HR := esc_step hsk hE hbl hBr (by first | exact ho' | (rw [← List.append_assoc]; exact ho')) hb' ((Below.refl B wr).alloc hBr _) (skips_letter 114 (by decide)) (by decide)
                    clear ho' hb' ho hsk hbl
                    go_wp2
                    go_roundg (s.size - (k + 1))
                    case measure => omega
                    case rel => exact ⟨k + 1, by omega, by omega, by go_num, HR⟩
                  · by_cases h9 : (s[k].toNat : Int) = 9
                    · go_wp2_with (at_builtin; refine wpList_app rfl _ _ rfl B _ (l ++ E) [92, 116] rfl (ho.alloc _) wr.heap.size 2 rfl rfl (new_cells wr _ [92, 116] rfl) (len_ok hN (by decide)) (base_ok hBr _) ?_)
                      intro v' w1 ho' hb'
                      have HR := esc_step hsk hE hbl hBr (by first | exact ho' | (rw [← List.append_assoc]; exact ho')) hb' ((Below.refl B wr).alloc hBr _) (skips_letter 116 (by decide)) (by decide)
                      clear ho' hb' ho hsk hbl
                      go_wp2
                      go_roundg (s.size - (k + 1))
                      case measure => omega
                      case rel => exact ⟨k + 1, by omega, by omega, by go_num, HR⟩
                    · have e34 : ((s[k].toNat : Int) == 34) = false := by simpa using h34
                      have e92 : ((s[k].toNat : Int) == 92) = false := by simpa using h92
                      have e47 : ((s[k].toNat : Int) == 47) = false := by simpa using h47
                      by_cases h32 : (s[k].toNat : Int) < 32
                      · by_cases hpar : (k : Int) % 2 = 0
                        · have hq0 : 0 ≤ (s[k].toNat : Int) / 16 := by omega
                          have hq1 : (s[k].toNat : Int) / 16 < 16 := by omega
                          have hr0 : 0 ≤ (s[k].toNat : Int) % 16 := by omega
                          have hr1 : (s[k].toNat : Int) % 16 < 16 := by omega
                          have hand := and15 s[k]
                          have g1 : ((s[k].toNat : Int) / 16).toNat < lowT.size := by show _ < 16; omega
                          have g2 : ((s[k].toNat : Int) % 16).toNat < lowT.size := by show _ < 16; omega
                          have hc : Skips [92, 117, 48, 48, lowT[((s[k].toNat : Int) / 16).toNat], lowT[((s[k].toNat : Int) % 16).toNat]] := skips_u _ _ (low_hex _ g1) (low_hex _ g2)
                          go_upto_region 20 with fail
                          go_region_law (refine step_app rfl _ _ rfl B _ (l ++ E) [92, 117, 48, 48, lowT[((s[k].toNat : Int) / 16).toNat], lowT[((s[k].toNat : Int) % 16).toNat]] rfl (ho.alloc _) wr.heap.size 6 rfl rfl (new_cells wr _ [92, 117, 48, 48, lowT[((s[k].toNat : Int) / 16).toNat], lowT[((s[k].toNat : Int) % 16).toNat]] rfl) (len_ok hN (by show 6 ≤ 6; decide)) (base_ok hBr _) ?_; intro v' w1 ho' hb')
                          all_goals
                            have HR := esc_step hsk hE hbl hBr (by first | exact ho' | (rw [← List.append_assoc]; exact ho')) hb' (by first | exact ((Below.refl B wr).alloc hBr _).drew | exact ((Below.refl B wr).drew).alloc hBr _) hc (by show 6 ≤ 6; decide)
                            clear ho' hb' ho hsk hbl hc
                            go_wp2
                            go_roundg (s.size - (k + 1))
                            case measure => omega
                            case rel => exact ⟨k + 1, by omega, by omega, by go_num, HR⟩
                        · have epar : ((k : Int) % 2 == 0) = false := by simpa using hpar
                          have hq0 : 0 ≤ (s[k].toNat : Int) / 16 := by omega
                          have hq1 : (s[k].toNat : Int) / 16 < 16 := by omega
                          have hr0 : 0 ≤ (s[k].toNat : Int) % 16 := by omega
                          have hr1 : (s[k].toNat : Int) % 16 < 16 := by omega
                          have hand := and15 s[k]
                          have g1 : ((s[k].toNat : Int) / 16).toNat < upT.size := by show _ < 16; omega
                          have g2 : ((s[k].toNat : Int) % 16).toNat < upT.size := by show _ < 16; omega
                          have hc : Skips [92, 117, 48, 48, upT[((s[k].toNat : Int) / 16).toNat], upT[((s[k].toNat : Int) % 16).toNat]] := skips_u _ _ (up_hex _ g1) (up_hex _ g2)
                          go_upto_region 21 with fail
                          go_region_law (refine step_app rfl _ _ rfl B _ (l ++ E) [92, 117, 48, 48, upT[((s[k].toNat : Int) / 16).toNat], upT[((s[k].toNat : Int) % 16).toNat]] rfl (ho.alloc _) wr.heap.size 6 rfl rfl (new_cells wr _ [92, 117, 48, 48, upT[((s[k].toNat : Int) / 16).toNat], upT[((s[k].toNat : Int) % 16).toNat]] rfl) (len_ok hN (by show 6 ≤ 6; decide)) (base_ok hBr _) ?_; intro v' w1 ho' hb')
                          all_goals
                            have HR := esc_step hsk hE hbl hBr (by first | exact ho' | (rw [← List.append_assoc]; exact ho')) hb' (by first | exact ((Below.refl B wr).alloc hBr _).drew | exact ((Below.refl B wr).drew).alloc hBr _) hc (by show 6 ≤ 6; decide)
                            clear ho' hb' ho hsk hbl hc
                            go_wp2
                            go_roundg (s.size - (k + 1))
                            case measure => omega
                            case rel => exact ⟨k + 1, by omega, by omega, by go_num, HR⟩
                      · have hc : Skips [s[k]] := skips_plain s[k] (by omega) h34 h92
                        go_wp2_with (at_builtin; refine wpList_app rfl _ _ rfl B _ (l ++ E) [s[k]] rfl (ho.alloc _) wr.heap.size 1 rfl rfl (new_cells wr _ [s[k]] rfl) (len_ok hN (by show 1 ≤ 6; decide)) (base_ok hBr _) ?_)
                        intro v' w1 ho' hb'
                        have HR := esc_step hsk hE hbl hBr (by first | exact ho' | (rw [← List.append_assoc]; exact ho')) hb' ((Below.refl B wr).alloc hBr _) hc (by show 1 ≤ 6; decide)
                        clear ho' hb' ho hsk hbl hc
                        go_wp2
                        go_roundg (s.size - (k + 1))
                        case measure => omega
                        case rel => exact ⟨k + 1, by omega, by omega, by go_num, HR⟩
    · have hR : EscRel B w l s.size u0 wr := ⟨E, ho, hsk, by omega, hbl, hBr⟩
      go_wp2
      go_ret
      exact ⟨_, rfl, hR⟩

end Go.Proofs.Qxb6600505a
