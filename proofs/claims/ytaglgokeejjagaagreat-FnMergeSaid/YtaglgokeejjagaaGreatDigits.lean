/- 'digits' answers some bool, of the text alone. -/
import Derived.Test.YtaglgokeejjagaaGreatBase
namespace Go.Proofs.YtaglgokeejjagaaGreat
set_option linter.unusedVariables false
set_option linter.unusedSimpArgs false
open Go.RowKit Go.Sort

theorem size_pos_of_ne {s : ByteArray} (h : s.toList ≠ []) : 0 < s.size := by
  rw [ByteArray.toList_eq] at h
  have : 0 < s.data.toList.length := List.length_pos_iff.2 h
  simpa using this
theorem size_zero_of {s : ByteArray} (h : s.toList = []) : s.size = 0 := by
  rw [ByteArray.toList_eq] at h
  have : s.data.toList.length = 0 := by rw [h]; rfl
  simpa using this

def isDig (c : UInt8) : Prop := 48 ≤ (c.toNat : Int) ∧ (c.toNat : Int) ≤ 57

set_option maxHeartbeats 4000000 in
set_option maxRecDepth 100000 in
theorem digits_ex (s : ByteArray) (hs : s.size ≤ 140737488351232) : ∃ b, ∀ w, Calls Tryz.prog 37 #[.string s] w fun e w' => e = .returned (.bool b) ∧ w = w' := by
  by_cases h0 : s.toList = []
  · have h0' : (!s.toList.isEmpty) = false := by simp [h0]
    have hz := size_zero_of h0
    apply Exists.intro
    · intro w
      go_enter Tryz.func37, Tryz.ntmps37
      go_wp2
      refine wp_loop_once ?_
      go_wp2
      go_ret
      exact ⟨rfl, rfl⟩
  · have h0' : (!s.toList.isEmpty) = true := by simp [h0]
    have hz := size_pos_of_ne h0
    by_cases hm : (s[0].toNat : Int) = 45
    · have hm' : ((s[0].toNat : Int) == 45) = true := by simp [hm]
      have htz : (s.extract 1 s.size).size ≤ 140737488351232 := by simp; omega
      generalize ht : s.extract 1 s.size = t at htz
      by_cases hall : ∀ j (h : j < t.size), isDig t[j]
      · have HA := Lib.hid hall
        clear hall
        by_cases hn : t.toList = []
        · have hn' : (!t.toList.isEmpty) = false := by simp [hn]
          have hzz := size_zero_of hn
          apply Exists.intro
          · intro w
            go_enter Tryz.func37, Tryz.ntmps37
            go_wp2
            refine wp_loop_once ?_
            go_wp2
            go_ret
            exact ⟨rfl, rfl⟩
        · have hn' : (!t.toList.isEmpty) = true := by simp [hn]
          have hzz := size_pos_of_ne hn
          by_cases h15 : t.size ≤ 15
          · by_cases h48 : ((t[0].toNat : Int) != 48) = true
            · apply Exists.intro
              · intro w
                go_enter Tryz.func37, Tryz.ntmps37
                go_wp2
                go_loop [3, 15] (fun _ i => ∃ k : Nat, k ≤ t.size ∧ i = .int .i64 k) (fun _ i => t.size - (intOf i).toNat)
                case atStart => exact ⟨0, Nat.zero_le _, rfl⟩
                case round =>
                obtain ⟨k, hk, rfl⟩ := hrel
                by_cases hlt : k < t.size
                · obtain ⟨hd1, hd2⟩ := HA.out k hlt
                  go_wp2
                  go_round
                  case rel => exact ⟨k + 1, by omega, by go_num⟩
                  case measure => simp [intOf]; omega
                · go_wp2
                  go_ret
                  exact ⟨rfl, rfl⟩
            · have h48' : ((t[0].toNat : Int) != 48) = false := by simpa using h48
              clear h48
              apply Exists.intro
              · intro w
                go_enter Tryz.func37, Tryz.ntmps37
                go_wp2
                go_loop [3, 15] (fun _ i => ∃ k : Nat, k ≤ t.size ∧ i = .int .i64 k) (fun _ i => t.size - (intOf i).toNat)
                case atStart => exact ⟨0, Nat.zero_le _, rfl⟩
                case round =>
                obtain ⟨k, hk, rfl⟩ := hrel
                by_cases hlt : k < t.size
                · obtain ⟨hd1, hd2⟩ := HA.out k hlt
                  go_wp2
                  go_round
                  case rel => exact ⟨k + 1, by omega, by go_num⟩
                  case measure => simp [intOf]; omega
                · go_wp2
                  go_ret
                  exact ⟨rfl, rfl⟩
          · apply Exists.intro
            · intro w
              go_enter Tryz.func37, Tryz.ntmps37
              go_wp2
              go_loop [3, 15] (fun _ i => ∃ k : Nat, k ≤ t.size ∧ i = .int .i64 k) (fun _ i => t.size - (intOf i).toNat)
              case atStart => exact ⟨0, Nat.zero_le _, rfl⟩
              case round =>
              obtain ⟨k, hk, rfl⟩ := hrel
              by_cases hlt : k < t.size
              · obtain ⟨hd1, hd2⟩ := HA.out k hlt
                go_wp2
                go_round
                case rel => exact ⟨k + 1, by omega, by go_num⟩
                case measure => simp [intOf]; omega
              · go_wp2
                go_ret
                exact ⟨rfl, rfl⟩
      · refine ⟨false, fun w => ?_⟩
        go_enter Tryz.func37, Tryz.ntmps37
        go_wp2
        go_loop [3, 15] (fun _ i => ∃ k : Nat, k ≤ t.size ∧ i = .int .i64 k ∧ Hid (∀ j (h : j < t.size), j < k → isDig t[j])) (fun _ i => t.size - (intOf i).toNat)
        case atStart => exact ⟨0, Nat.zero_le _, rfl, fun j _ h => absurd h (Nat.not_lt_zero _)⟩
        case round =>
          obtain ⟨k, hk, rfl, hI⟩ := hrel
          by_cases hlt : k < t.size
          · by_cases hd : isDig t[k]
            · have HJ : Hid (∀ j (h : j < t.size), j < k + 1 → isDig t[j]) := fun j hj h => by
                by_cases e : j = k
                · subst e; exact hd
                · exact hI.out j hj (by omega)
              obtain ⟨hd1, hd2⟩ := hd
              go_wp2
              go_round
              case rel => exact ⟨k + 1, by omega, by go_num, HJ⟩
              case measure => simp [intOf]; omega
            · by_cases hd1 : (t[k].toNat : Int) < 48
              · go_wp2
                go_ret
                exact ⟨rfl, rfl⟩
              · have hd2 : 57 < (t[k].toNat : Int) := by unfold isDig at hd; omega
                go_wp2
                go_ret
                exact ⟨rfl, rfl⟩
          · exact absurd (fun j hj => hI.out j hj (by omega)) hall
    · have hm' : ((s[0].toNat : Int) == 45) = false := by simpa using hm
      have htz := hs
      obtain ⟨t, ht⟩ : ∃ t, s = t := ⟨s, rfl⟩
      subst ht
      by_cases hall : ∀ j (h : j < s.size), isDig s[j]
      · have HA := Lib.hid hall
        clear hall
        by_cases hn : s.toList = []
        · have hn' : (!s.toList.isEmpty) = false := by simp [hn]
          have hzz := size_zero_of hn
          apply Exists.intro
          · intro w
            go_enter Tryz.func37, Tryz.ntmps37
            go_wp2
            refine wp_loop_once ?_
            go_wp2
            go_ret
            exact ⟨rfl, rfl⟩
        · have hn' : (!s.toList.isEmpty) = true := by simp [hn]
          have hzz := size_pos_of_ne hn
          by_cases h15 : s.size ≤ 15
          · by_cases h48 : ((s[0].toNat : Int) != 48) = true
            · apply Exists.intro
              · intro w
                go_enter Tryz.func37, Tryz.ntmps37
                go_wp2
                go_loop [3, 15] (fun _ i => ∃ k : Nat, k ≤ s.size ∧ i = .int .i64 k) (fun _ i => s.size - (intOf i).toNat)
                case atStart => exact ⟨0, Nat.zero_le _, rfl⟩
                case round =>
                obtain ⟨k, hk, rfl⟩ := hrel
                by_cases hlt : k < s.size
                · obtain ⟨hd1, hd2⟩ := HA.out k hlt
                  go_wp2
                  go_round
                  case rel => exact ⟨k + 1, by omega, by go_num⟩
                  case measure => simp [intOf]; omega
                · go_wp2
                  go_ret
                  exact ⟨rfl, rfl⟩
            · have h48' : ((s[0].toNat : Int) != 48) = false := by simpa using h48
              clear h48
              apply Exists.intro
              · intro w
                go_enter Tryz.func37, Tryz.ntmps37
                go_wp2
                go_loop [3, 15] (fun _ i => ∃ k : Nat, k ≤ s.size ∧ i = .int .i64 k) (fun _ i => s.size - (intOf i).toNat)
                case atStart => exact ⟨0, Nat.zero_le _, rfl⟩
                case round =>
                obtain ⟨k, hk, rfl⟩ := hrel
                by_cases hlt : k < s.size
                · obtain ⟨hd1, hd2⟩ := HA.out k hlt
                  go_wp2
                  go_round
                  case rel => exact ⟨k + 1, by omega, by go_num⟩
                  case measure => simp [intOf]; omega
                · go_wp2
                  go_ret
                  exact ⟨rfl, rfl⟩
          · apply Exists.intro
            · intro w
              go_enter Tryz.func37, Tryz.ntmps37
              go_wp2
              go_loop [3, 15] (fun _ i => ∃ k : Nat, k ≤ s.size ∧ i = .int .i64 k) (fun _ i => s.size - (intOf i).toNat)
              case atStart => exact ⟨0, Nat.zero_le _, rfl⟩
              case round =>
              obtain ⟨k, hk, rfl⟩ := hrel
              by_cases hlt : k < s.size
              · obtain ⟨hd1, hd2⟩ := HA.out k hlt
                go_wp2
                go_round
                case rel => exact ⟨k + 1, by omega, by go_num⟩
                case measure => simp [intOf]; omega
              · go_wp2
                go_ret
                exact ⟨rfl, rfl⟩
      · refine ⟨false, fun w => ?_⟩
        go_enter Tryz.func37, Tryz.ntmps37
        go_wp2
        go_loop [3, 15] (fun _ i => ∃ k : Nat, k ≤ s.size ∧ i = .int .i64 k ∧ Hid (∀ j (h : j < s.size), j < k → isDig s[j])) (fun _ i => s.size - (intOf i).toNat)
        case atStart => exact ⟨0, Nat.zero_le _, rfl, fun j _ h => absurd h (Nat.not_lt_zero _)⟩
        case round =>
          obtain ⟨k, hk, rfl, hI⟩ := hrel
          by_cases hlt : k < s.size
          · by_cases hd : isDig s[k]
            · have HJ : Hid (∀ j (h : j < s.size), j < k + 1 → isDig s[j]) := fun j hj h => by
                by_cases e : j = k
                · subst e; exact hd
                · exact hI.out j hj (by omega)
              obtain ⟨hd1, hd2⟩ := hd
              go_wp2
              go_round
              case rel => exact ⟨k + 1, by omega, by go_num, HJ⟩
              case measure => simp [intOf]; omega
            · by_cases hd1 : (s[k].toNat : Int) < 48
              · go_wp2
                go_ret
                exact ⟨rfl, rfl⟩
              · have hd2 : 57 < (s[k].toNat : Int) := by unfold isDig at hd; omega
                go_wp2
                go_ret
                exact ⟨rfl, rfl⟩
          · exact absurd (fun j hj => hI.out j hj (by omega)) hall
/-- What 'digits' answers. -/
noncomputable def digitsB (s : ByteArray) : Bool := if h : s.size ≤ 140737488351232 then Classical.choose (digits_ex s h) else false
theorem digits_any (s : ByteArray) (hs : s.size ≤ 140737488351232) (w : World) : Calls Tryz.prog 37 #[.string s] w fun e w' => e = .returned (.bool (digitsB s)) ∧ w = w' := by
  have := Classical.choose_spec (digits_ex s hs) w
  unfold digitsB
  rw [dif_pos hs]
  exact this
end Go.Proofs.YtaglgokeejjagaaGreat
