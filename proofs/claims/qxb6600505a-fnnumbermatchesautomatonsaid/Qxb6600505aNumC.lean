/-
  THE WALK OF checkNumber AND OF ITS PASS-ON.
-/
import Derived.Test.Qxb6600505aNumW
namespace Go.Proofs.Qxb6600505a
open Go.ChangeShapes Go.WideShapes Go.ChangeAt Go.RowKit
open Num

/-- Does e or E stand there? -/
def eB (s : ByteArray) (p : Nat) : Bool := if h : p < s.size then (s[p].toNat : Int) == 101 || (s[p].toNat : Int) == 69 else false

theorem eB_true {s : ByteArray} {p : Nat} (h : eB s p = true) : ∃ h : p < s.size, (s[p].toNat : Int) = 101 ∨ (s[p].toNat : Int) = 69 := by
  unfold eB at h
  split at h
  · rename_i hl; exact ⟨hl, by simpa using h⟩
  · cases h

theorem eB_false {s : ByteArray} {p : Nat} (h : eB s p = false) : ∀ h : p < s.size, ¬ ((s[p].toNat : Int) = 101 ∨ (s[p].toNat : Int) = 69) := by
  intro hl
  unfold eB at h
  rw [dif_pos hl] at h
  simpa using h

set_option maxRecDepth 100000 in
set_option maxHeartbeats 1000000 in
theorem num_any (s : ByteArray) (i : Nat) (w : World) (hs : (s.size : Int) ≤ 2000000) (hi : (i : Int) < s.size) :
    Calls Try.prog 31 #[.string s, .int .i64 i] w fun e w' => e = .returned (.int .i64 (numAt s 0 i)) ∧ w' = w := by
  have hi0 : i < s.size := by omega
  go_enter Try.func31, Try.ntmps31
  go_upto_if 8 with (fail)
  go_cut [1] (fun v wr => wr = w ∧ ∃ (p : Nat), v = .int .i64 p ∧ S1 s i p)
  case first =>
    by_cases h45 : (s[i].toNat : Int) = 45
    · have H := s1_minus hi0 h45
      go_wp2
      go_meet
      case rel => exact ⟨rfl, i + 1, by go_num, H⟩
    · have H := s1_plain hi0 h45
      go_wp2
      go_meet
      case rel => exact ⟨rfl, i, rfl, H⟩
  case rest =>
    obtain ⟨rfl, p, rfl, H⟩ := hcut
    have hp : (p : Int) ≤ s.size := by have := H.1; omega
    rename_i hK
    refine hK _ _ ?_
    clear hK
    apply wp_seq_k; intro _ _
    go_cut [1] (fun v wr => wr = wc ∧ ∃ (p : Nat), v = .int .i64 p ∧ S2 s i p)
    case first =>
      by_cases hz : ∃ h : p < s.size, (s[p].toNat : Int) = 48
      · obtain ⟨hlt0, hz⟩ := hz
        have hlt : (p : Int) < s.size := by omega
        have H2 := s2_zero H hlt0 hz
        go_wp2
        go_meet
        case rel => exact ⟨rfl, p + 1, by go_num, H2⟩
      · have hz' : ∀ h : p < s.size, ¬ (s[p].toNat : Int) = 48 := fun h e => hz ⟨h, e⟩
        clear hz
        by_cases hd : dEnd s p = p
        · have e := skip_none hd
          have hr : Hid ((-1 : Int) = numAt s 0 i) := s2_none H hz' hd
          clear hd
          by_cases hlt : (p : Int) < s.size
          · have hlt0 : p < s.size := by omega
            have hz := hz' hlt0
            clear hz'
            go_wp2_with (go_at_call 40; refine (skip_any _ _ _ hs hp).mono ?_; rintro e w' ⟨rfl, rfl⟩)
            go_ret
            exact ⟨ret_i64 hr, rfl⟩
          · clear hz'
            go_wp2_with (go_at_call 40; refine (skip_any _ _ _ hs hp).mono ?_; rintro e w' ⟨rfl, rfl⟩)
            go_ret
            exact ⟨ret_i64 hr, rfl⟩
        · have hd' : p < dEnd s p := by have := dEnd_ge s p; omega
          have e := skip_some hd'
          have H2 := s2_digits H hz' hd'
          clear hd
          by_cases hlt : (p : Int) < s.size
          · have hlt0 : p < s.size := by omega
            have hz := hz' hlt0
            clear hz'
            go_wp2_with (go_at_call 40; refine (skip_any _ _ _ hs hp).mono ?_; rintro e w' ⟨rfl, rfl⟩)
            go_meet
            case rel => exact ⟨rfl, _, rfl, H2⟩
          · have := dEnd_end s p (by omega)
            omega
    case rest =>
      obtain ⟨rfl, p, rfl, H⟩ := hcut
      have hp : (p : Int) ≤ s.size := by have := H.1; omega
      rename_i hK
      refine hK _ _ ?_
      clear hK
      apply wp_seq_k; intro _ _
      go_cut [1] (fun v wr => wr = wc ∧ ∃ (p : Nat), v = .int .i64 p ∧ S3 s i p)
      case first =>
        by_cases hz : ∃ h : p < s.size, (s[p].toNat : Int) = 46
        · obtain ⟨hlt0, hz⟩ := hz
          have hlt : (p : Int) < s.size := by omega
          by_cases hd : dEnd s (p + 1) = p + 1
          · have e := skip_none hd
            have hr : Hid ((-1 : Int) = numAt s 0 i) := s3_none H hlt0 hz hd
            clear hd
            go_wp2_with (go_at_call 40; refine (skip_any _ (p + 1) _ hs (by omega)).mono ?_; rintro e w' ⟨rfl, rfl⟩)
            go_ret
            exact ⟨ret_i64 hr, rfl⟩
          · have hd' : p + 1 < dEnd s (p + 1) := by have := dEnd_ge s (p + 1); omega
            have e := skip_some hd'
            have H2 := s3_digits H hlt0 hz hd'
            clear hd
            go_wp2_with (go_at_call 40; refine (skip_any _ (p + 1) _ hs (by omega)).mono ?_; rintro e w' ⟨rfl, rfl⟩)
            go_meet
            case rel => exact ⟨rfl, _, rfl, H2⟩
        · have hz' : ∀ h : p < s.size, ¬ (s[p].toNat : Int) = 46 := fun h e => hz ⟨h, e⟩
          clear hz
          have H2 := s3_no H hz'
          by_cases hlt : (p : Int) < s.size
          · have hlt0 : p < s.size := by omega
            have hz := hz' hlt0
            clear hz'
            go_wp2
            go_meet
            case rel => exact ⟨rfl, _, rfl, H2⟩
          · clear hz'
            go_wp2
            go_meet
            case rel => exact ⟨rfl, _, rfl, H2⟩
      case rest =>
        obtain ⟨rfl, p, rfl, H⟩ := hcut
        have hp : (p : Int) ≤ s.size := by have := H.1; omega
        rename_i hK
        refine hK _ _ ?_
        clear hK
        apply wp_seq_k; intro _ _
        apply wp_seq_k; intro _ _
        go_cut [59] (fun v wr => wr = wc ∧ v = .bool (eB s p))
        case first =>
          by_cases hlt : (p : Int) < s.size
          · have hlt0 : p < s.size := by omega
            by_cases h101 : (s[p].toNat : Int) = 101
            · have e : eB s p = true := by simp [eB, hlt0, h101]
              go_wp2
              go_meet
              case rel => exact ⟨rfl, by rw [e]⟩
            · by_cases h69 : (s[p].toNat : Int) = 69
              · have e : eB s p = true := by simp [eB, hlt0, h69]
                go_wp2
                go_meet
                case rel => exact ⟨rfl, by rw [e]⟩
              · have e : eB s p = false := by simp [eB, hlt0, h101, h69]
                go_wp2
                go_meet
                case rel => exact ⟨rfl, by rw [e]; simp [h101, h69]⟩
          · have hlt0 : ¬ p < s.size := by omega
            have e : eB s p = false := by simp [eB, hlt0]
            go_wp2
            go_meet
            case rel => exact ⟨rfl, by rw [e]⟩
        case rest =>
          obtain ⟨rfl, rfl⟩ := hcut
          go_step
          go_step
          · have hE := eB_true (by assumption)
            go_step
            go_cut [1] (fun v wr => wr = wc ∧ ∃ (p : Nat), v = .int .i64 p ∧ S4 s i p)
            case first =>
              obtain ⟨hlt0, hE⟩ := hE
              have hlt : (p : Int) < s.size := by omega
              by_cases hlt2 : (p : Int) + 1 < s.size
              · have hlt1 : p + 1 < s.size := by omega
                by_cases h43 : (s[p + 1].toNat : Int) = 43
                · have H4 := s4_sign H hlt0 hE hlt1 (Or.inl h43)
                  clear hE
                  go_wp2
                  go_meet
                  case rel => exact ⟨rfl, p + 1 + 1, by go_num, H4⟩
                · by_cases h45 : (s[p + 1].toNat : Int) = 45
                  · have H4 := s4_sign H hlt0 hE hlt1 (Or.inr h45)
                    clear hE
                    go_wp2
                    go_meet
                    case rel => exact ⟨rfl, p + 1 + 1, by go_num, H4⟩
                  · have H4 := s4_plain H hlt0 hE (fun _ hc => hc.elim h43 h45)
                    have e43 : ((s[p + 1].toNat : Int) == 43) = false := by simpa using h43
                    have e45 : ((s[p + 1].toNat : Int) == 45) = false := by simpa using h45
                    clear hE
                    go_wp2
                    go_meet
                    case rel => exact ⟨rfl, p + 1, by go_num, H4⟩
              · have H4 := s4_plain H hlt0 hE (fun h _ => by omega)
                clear hE
                go_wp2
                go_meet
                case rel => exact ⟨rfl, p + 1, by go_num, H4⟩
            case rest =>
              clear hE
              obtain ⟨rfl, q, rfl, H4⟩ := hcut
              have hq : (q : Int) ≤ s.size := by have := H4.1; omega
              by_cases hd : dEnd s q = q
              · have e := skip_none hd
                have hr : Hid ((-1 : Int) = numAt s 0 i) := s5_none H4 hd
                clear hd
                go_wp2_with (go_at_call 40; refine (skip_any _ _ _ hs hq).mono ?_; rintro e w' ⟨rfl, rfl⟩)
                go_ret
                exact ⟨ret_i64 hr, rfl⟩
              · have hd' : q < dEnd s q := by have := dEnd_ge s q; omega
                have e := skip_some hd'
                have hr : Hid ((dEnd s q : Int) = numAt s 0 i) := s5_digits H4 hd'
                clear hd
                go_wp2_with (go_at_call 40; refine (skip_any _ _ _ hs hq).mono ?_; rintro e w' ⟨rfl, rfl⟩)
                go_ret
                exact ⟨ret_i64 hr, rfl⟩
          · have hr : Hid ((p : Int) = numAt s 0 i) := s4_no H (eB_false (by assumption))
            go_wp2
            go_ret
            exact ⟨ret_i64 hr, rfl⟩

set_option maxHeartbeats 400000 in
theorem zznum_any (s : ByteArray) (i : Nat) (w : World) (hs : (s.size : Int) ≤ 2000000) (hi : (i : Int) < s.size) :
    Calls Try.prog 22 #[.string s, .int .i64 i] w fun e w' => e = .returned (.int .i64 (numAt s 0 i)) ∧ w' = w := by
  go_enter Try.func22, Try.ntmps22
  go_wp2_with (go_at_call 31; refine (num_any _ _ _ hs hi).mono ?_; rintro e w' ⟨rfl, rfl⟩)
  go_ret
  exact ⟨rfl, rfl⟩

end Go.Proofs.Qxb6600505a
