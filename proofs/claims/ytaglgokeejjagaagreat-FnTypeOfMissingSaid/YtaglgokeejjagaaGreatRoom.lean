/- Proved: what 'roomy' takes off the bound for a type. Conditions: the type lies in memory as MIT says, within BdI. -/
import Derived.Test.YtaglgokeejjagaaGreatSpac
namespace Go.Proofs.YtaglgokeejjagaaGreat
set_option linter.unusedVariables false
set_option linter.unusedSimpArgs false
open Go.RowKit Go.Sort Go.Proofs.YtaglgokeejjagaaGreatW.PrintLast

set_option maxHeartbeats 4000000 in
set_option maxRecDepth 100000 in
theorem roomy_any (n : Nat) : ∀ (t : IT) (m : Mem) (kd : Int) (nm tx : ByteArray) (ak : Option Addr) (nk ck : Nat) (a1 : Option Addr) (n1 c1 : Nat) (a2 : Option Addr) (n2 c2 : Nat) (pb : Nat) (L : Int) (w : World), SizeOf.sizeOf t < n → BdI t → MIT m (itCells kd nm tx ak nk ck a1 n1 c1 a2 n2 c2) t → MLe m w.cell? → Av m pb →
    0 ≤ L → L ≤ 1000000 → w.heap[pb]? = some (.cells #[.int .i64 L] 3 (0, 0)) →
    Calls Tryz.prog 42 #[.agg #[.int .i64 kd, .string nm, .string tx, .slice ak nk ck, .slice a1 n1 c1, .slice a2 n2 c2], .pointer (some ⟨pb, 0, none⟩)] w (SpPost (WI t) L pb w) := by
  induction n with
  | zero => intro t m kd nm tx ak nk ck a1 n1 c1 a2 n2 c2 pb L w h; exact absurd h (Nat.not_lt_zero _)
  | succ n ih =>
    intro t m kd nm tx ak nk ck a1 n1 c1 a2 n2 c2 pb L w hn hw hv hm ha hL0 hL1 hp
    have IH := Lib.hid ih
    clear ih
    obtain ⟨rfl, rfl, rfl, rfl, rfl, rfl, ⟨lk1, lk2⟩, ⟨l11, l12⟩, ⟨l21, l22⟩, rk, r1, r2⟩ := hv.open
    obtain ⟨hb0, hb1, hb2, hb3, hb4, hb5, hb6, hb7⟩ := hw.out
    have hplt := lt_blk hp
    have HK := Lib.hid rk
    have H1 := Lib.hid r1
    have H2 := Lib.hid r2
    have HM := Lib.hid hm
    have HA := Lib.hid ha
    have HN := Lib.hid hn
    have HP := Lib.hid hp
    have HB3 := Lib.hid hb3
    have HB5 := Lib.hid hb5
    have HB7 := Lib.hid hb7
    clear rk r1 r2 hm hn hv ha hp hb3 hb5 hb7
    go_enter Tryz.func42, Tryz.ntmps42
    go_wp2
    have HX := Lib.hid (show (w.alloc (.cells #[.int .i64 t.kind, .string t.name, .string t.text, .slice ak t.keys.length ck, .slice a1 t.kids.length c1, .slice a2 t.more.length c2] 25)).heap[w.heap.size]? = _ from al_new rfl)
    have HQ := Lib.hid (show (w.alloc (.cells #[.int .i64 t.kind, .string t.name, .string t.text, .slice ak t.keys.length ck, .slice a1 t.kids.length c1, .slice a2 t.more.length c2] 25)).heap[pb]? = _ from al_old HP.out)
    have cq := cells1 HQ.out
    refine start_ (n := 10) (S := fun w' => w'.cell? ⟨pb, 0, none⟩ = some (.int .i64 L) ∧ w'.cell? ⟨w.heap.size, 3, none⟩ = some (.slice ak t.keys.length ck)) (ds := [9]) #[false, false, false, false, false, false, false, false, false, false] (by kernel_rfl) rfl rfl ⟨cell_blk HQ.out 0 rfl, cell_blk HX.out 3 rfl⟩ (fun hHeld => ?_)
    refine pure_ (i := 0) (N := some 8) (v := ?_) (a' := ?_) #[true, false, false, false, false, false, false, false, false, false] rfl rfl (by kernel_rfl) (fun _ _ _ h => h) (Or.inl ⟨by rfl, ?_⟩) ?_ ?_
    rotate_left
    · intro w'
      go_simp
      with_reducible rfl
    rotate_left
    · simp only [Act.put, List.setIfInBounds_toArray, List.set_cons_zero, List.set_cons_succ, i64_w, i32_w]
      rfl
    refine pure_ (i := 1) (N := some 9) (v := ?_) (a' := ?_) #[true, true, false, false, false, false, false, false, false, false] rfl rfl (by kernel_rfl) (fun _ _ _ h => h) (Or.inl ⟨by rfl, ?_⟩) ?_ ?_
    rotate_left
    · intro w'
      go_simp
      with_reducible rfl
    rotate_left
    · simp only [Act.put, List.setIfInBounds_toArray, List.set_cons_zero, List.set_cons_succ, i64_w, i32_w]
      rfl
    refine pure_ (i := 3) (N := some 11) (v := ?_) (a' := ?_) #[true, true, false, true, false, false, false, false, false, false] rfl rfl (by kernel_rfl) (fun _ _ _ h => h) (Or.inl ⟨by rfl, ?_⟩) ?_ ?_
    rotate_left
    · intro w'
      go_simp
      with_reducible rfl
    rotate_left
    · simp only [Act.put, List.setIfInBounds_toArray, List.set_cons_zero, List.set_cons_succ, i64_w, i32_w]
      rfl
    refine take_ (i := 2) (N := some 10) (v := ?_) (a' := ?_) #[true, true, true, true, false, false, false, false, false, false] rfl rfl (by kernel_rfl) (fun _ _ _ h => h) (Or.inl ⟨by rfl, ?_⟩) hHeld ?_ ?_
    rotate_left
    · rintro w' ⟨s0, s1⟩
      go_simp
      with_reducible rfl
    rotate_left
    · simp only [Act.put, List.setIfInBounds_toArray, List.set_cons_zero, List.set_cons_succ, i64_w, i32_w]
      rfl
    refine take_ (i := 4) (N := some 12) (v := ?_) (a' := ?_) #[true, true, true, true, true, false, false, false, false, false] rfl rfl (by kernel_rfl) (fun _ _ _ h => h) (Or.inl ⟨by rfl, ?_⟩) hHeld ?_ ?_
    rotate_left
    · rintro w' ⟨s0, s1⟩
      go_simp
      with_reducible rfl
    rotate_left
    · simp only [Act.put, List.setIfInBounds_toArray, List.set_cons_zero, List.set_cons_succ, i64_w, i32_w]
      rfl
    refine pure_ (i := 5) (N := some 13) (v := ?_) (a' := ?_) #[true, true, true, true, true, true, false, false, false, false] rfl rfl (by kernel_rfl) (fun _ _ _ h => h) (Or.inl ⟨by rfl, ?_⟩) ?_ ?_
    rotate_left
    · intro w'
      go_simp
      with_reducible rfl
    rotate_left
    · simp only [Act.put, List.setIfInBounds_toArray, List.set_cons_zero, List.set_cons_succ, i64_w, i32_w]
      rfl
    refine pure_ (i := 6) (N := some 14) (v := ?_) (a' := ?_) #[true, true, true, true, true, true, true, false, false, false] rfl rfl (by kernel_rfl) (fun _ _ _ h => h) (Or.inl ⟨by rfl, ?_⟩) ?_ ?_
    rotate_left
    · intro w'
      go_simp
      with_reducible rfl
    rotate_left
    · simp only [Act.put, List.setIfInBounds_toArray, List.set_cons_zero, List.set_cons_succ, i64_w, i32_w]
      rfl
    refine pure_ (i := 7) (N := some 15) (v := ?_) (a' := ?_) #[true, true, true, true, true, true, true, true, false, false] rfl rfl (by kernel_rfl) (fun _ _ _ h => h) (Or.inl ⟨by rfl, ?_⟩) ?_ ?_
    rotate_left
    · intro w'
      go_simp
      with_reducible rfl
    rotate_left
    · simp only [Act.put, List.setIfInBounds_toArray, List.set_cons_zero, List.set_cons_succ, i64_w, i32_w]
      rfl
    refine pure_ (i := 8) (N := some 16) (v := ?_) (a' := ?_) #[true, true, true, true, true, true, true, true, true, false] rfl rfl (by kernel_rfl) (fun _ _ _ h => h) (Or.inl ⟨by rfl, ?_⟩) ?_ ?_
    rotate_left
    · intro w'
      go_simp
      with_reducible rfl
    rotate_left
    · simp only [Act.put, List.setIfInBounds_toArray, List.set_cons_zero, List.set_cons_succ, i64_w, i32_w]
      rfl
    refine last_ (i := 9) (N := none) #[true, true, true, true, true, true, true, true, true, true] rfl rfl (by kernel_rfl) (by decide) (fun K hK => ?_)
    obtain ⟨cq0, cq1⟩ := cq
    refine skip_ (w1 := ?_) (by rfl) rfl ?_ ?_
    rotate_left
    · go_simp
      rfl
    refine hK.out _ _ ?_
    clear hK K
    refine done_ (by kernel_rfl) ?_
    clear hHeld
    go_wp2
    have e1 : wrap64 (L - wrap64 (1 + (t.keys.length : Int))) = L - ((1 + t.keys.length : Nat) : Int) := by
      rw [w64 (n := 1 + (t.keys.length : Int)) (by omega), w64 (by omega)]; omega
    have E1 := Lib.hid e1
    clear e1 cq0 cq1
    go_loopw [5] (fun i wr => ∃ (k : Nat) (L1 : Int), k ≤ t.keys.length ∧ i = .int .i64 k ∧ -1125899906842624 ≤ L1 ∧ L1 ≤ 1000000 ∧ Hid (
        wr.heap[pb]? = some (.cells #[.int .i64 L1] 3 (0, 0)) ∧ wr.heap[w.heap.size]? = some (.cells #[.int .i64 t.kind, .string t.name, .string t.text, .slice ak t.keys.length ck, .slice a1 t.kids.length c1, .slice a2 t.more.length c2] 25 (0, 0)) ∧ Kp (· = pb) w wr ∧
        SpI (1 + t.keys.length + ((t.keys.take k).map fun k => k.text.size).sum) (WI t) L L1)) (fun i _ => t.keys.length - (intOf i).toNat)
    case atStart =>
      have hs : SpI (1 + t.keys.length) (WI t) L (L - ((1 + t.keys.length : Nat) : Int)) := by
        have h0 : SpI 0 (WI t) L L := .inl ⟨hL0, by omega⟩
        have := h0.step hL0 (x := 1 + t.keys.length) (by omega) (by rw [WI_eq t]; omega)
        rwa [Nat.zero_add] at this
      have hb := hs.bd hL1
      rw [E1.out]
      refine ⟨0, _, Nat.zero_le _, rfl, hb.1, hb.2, ?_, ?_, ?_, ?_⟩
      · exact al_old (set_blk HP.out 0 _)
      · exact al_new (by simp)
      · exact (((Kp.refl (· = pb) w).setCell (p := ⟨pb, 0, none⟩) (.inl rfl) _).alloc _).drew
      · simpa using hs
    case round =>
      obtain ⟨k, L1, hk, rfl, hl1, hl2, hI⟩ := hrel
      obtain ⟨b0, b1, b2, b3, b4, b5⟩ := cells6 hI.out.2.1
      obtain ⟨q0, q1⟩ := cells1 hI.out.1
      by_cases hc : k < t.keys.length ∧ 0 ≤ L1
      · obtain ⟨hlt, h0⟩ := hc
        have hm1 := kp_mle HM.out HA.out hI.out.2.2.1
        obtain ⟨b, off, rfl, e0, e1⟩ := HK.out.at hlt
        replace e0 := hm1 _ _ e0
        replace e1 := hm1 _ _ e1
        have hsz := HB3.out _ (List.getElem_mem hlt)
        clear hm1
        go_wp2
        refine start_ (n := 13) (S := fun w' => w'.cell? ⟨pb, 0, none⟩ = some (.int .i64 L1) ∧ w'.cell? ⟨w.heap.size, 3, none⟩ = some (.slice (some ⟨b, off, none⟩) t.keys.length ck) ∧ w'.cell? ⟨b, off + k * 2 + 1, none⟩ = some (.string t.keys[k].text)) (ds := [12]) #[false, false, false, false, false, false, false, false, false, false, false, false, false] (by kernel_rfl) rfl rfl ⟨q0, b3, e1⟩ (fun hHeld => ?_)
        refine pure_ (i := 0) (N := some 30) (v := ?_) (a' := ?_) #[true, false, false, false, false, false, false, false, false, false, false, false, false] rfl rfl (by kernel_rfl) (fun _ _ _ h => h) (Or.inl ⟨by rfl, ?_⟩) ?_ ?_
        rotate_left
        · intro w'
          go_simp
          with_reducible rfl
        rotate_left
        · simp only [Act.put, List.setIfInBounds_toArray, List.set_cons_zero, List.set_cons_succ, i64_w, i32_w]
          rfl
        refine pure_ (i := 1) (N := some 31) (v := ?_) (a' := ?_) #[true, true, false, false, false, false, false, false, false, false, false, false, false] rfl rfl (by kernel_rfl) (fun _ _ _ h => h) (Or.inl ⟨by rfl, ?_⟩) ?_ ?_
        rotate_left
        · intro w'
          go_simp
          with_reducible rfl
        rotate_left
        · simp only [Act.put, List.setIfInBounds_toArray, List.set_cons_zero, List.set_cons_succ, i64_w, i32_w]
          rfl
        refine pure_ (i := 3) (N := some 33) (v := ?_) (a' := ?_) #[true, true, false, true, false, false, false, false, false, false, false, false, false] rfl rfl (by kernel_rfl) (fun _ _ _ h => h) (Or.inl ⟨by rfl, ?_⟩) ?_ ?_
        rotate_left
        · intro w'
          go_simp
          with_reducible rfl
        rotate_left
        · simp only [Act.put, List.setIfInBounds_toArray, List.set_cons_zero, List.set_cons_succ, i64_w, i32_w]
          rfl
        refine pure_ (i := 5) (N := some 35) (v := ?_) (a' := ?_) #[true, true, false, true, false, true, false, false, false, false, false, false, false] rfl rfl (by kernel_rfl) (fun _ _ _ h => h) (Or.inl ⟨by rfl, ?_⟩) ?_ ?_
        rotate_left
        · intro w'
          go_simp
          with_reducible rfl
        rotate_left
        · simp only [Act.put, List.setIfInBounds_toArray, List.set_cons_zero, List.set_cons_succ, i64_w, i32_w]
          rfl
        refine take_ (i := 2) (N := some 32) (v := ?_) (a' := ?_) #[true, true, true, true, false, true, false, false, false, false, false, false, false] rfl rfl (by kernel_rfl) (fun _ _ _ h => h) (Or.inl ⟨by rfl, ?_⟩) hHeld ?_ ?_
        rotate_left
        · rintro w' ⟨s0, s1, s2⟩
          go_simp
          with_reducible rfl
        rotate_left
        · simp only [Act.put, List.setIfInBounds_toArray, List.set_cons_zero, List.set_cons_succ, i64_w, i32_w]
          rfl
        refine take_ (i := 4) (N := some 34) (v := ?_) (a' := ?_) #[true, true, true, true, true, true, false, false, false, false, false, false, false] rfl rfl (by kernel_rfl) (fun _ _ _ h => h) (Or.inl ⟨by rfl, ?_⟩) hHeld ?_ ?_
        rotate_left
        · rintro w' ⟨s0, s1, s2⟩
          go_simp
          with_reducible rfl
        rotate_left
        · simp only [Act.put, List.setIfInBounds_toArray, List.set_cons_zero, List.set_cons_succ, i64_w, i32_w]
          rfl
        refine pure_ (i := 6) (N := some 36) (v := ?_) (a' := ?_) #[true, true, true, true, true, true, true, false, false, false, false, false, false] rfl rfl (by kernel_rfl) (fun _ _ _ h => h) (Or.inl ⟨by rfl, ?_⟩) ?_ ?_
        rotate_left
        · intro w'
          go_simp
          with_reducible rfl
        rotate_left
        · simp only [Act.put, List.setIfInBounds_toArray, List.set_cons_zero, List.set_cons_succ, i64_w, i32_w]
          rfl
        refine pure_ (i := 7) (N := some 37) (v := ?_) (a' := ?_) #[true, true, true, true, true, true, true, true, false, false, false, false, false] rfl rfl (by kernel_rfl) (fun _ _ _ h => h) (Or.inl ⟨by rfl, ?_⟩) ?_ ?_
        rotate_left
        · intro w'
          go_simp
          with_reducible rfl
        rotate_left
        · simp only [Act.put, List.setIfInBounds_toArray, List.set_cons_zero, List.set_cons_succ, i64_w, i32_w]
          rfl
        refine take_ (i := 8) (N := some 38) (v := ?_) (a' := ?_) #[true, true, true, true, true, true, true, true, true, false, false, false, false] rfl rfl (by kernel_rfl) (fun _ _ _ h => h) (Or.inl ⟨by rfl, ?_⟩) hHeld ?_ ?_
        rotate_left
        · rintro w' ⟨s0, s1, s2⟩
          go_simp
          with_reducible rfl
        rotate_left
        · simp only [Act.put, List.setIfInBounds_toArray, List.set_cons_zero, List.set_cons_succ, i64_w, i32_w]
          rfl
        refine pure_ (i := 9) (N := some 39) (v := ?_) (a' := ?_) #[true, true, true, true, true, true, true, true, true, true, false, false, false] rfl rfl (by kernel_rfl) (fun _ _ _ h => h) (Or.inl ⟨by rfl, ?_⟩) ?_ ?_
        rotate_left
        · intro w'
          go_simp
          with_reducible rfl
        rotate_left
        · simp only [Act.put, List.setIfInBounds_toArray, List.set_cons_zero, List.set_cons_succ, i64_w, i32_w]
          rfl
        refine pure_ (i := 10) (N := some 40) (v := ?_) (a' := ?_) #[true, true, true, true, true, true, true, true, true, true, true, false, false] rfl rfl (by kernel_rfl) (fun _ _ _ h => h) (Or.inl ⟨by rfl, ?_⟩) ?_ ?_
        rotate_left
        · intro w'
          go_simp
          with_reducible rfl
        rotate_left
        · simp only [Act.put, List.setIfInBounds_toArray, List.set_cons_zero, List.set_cons_succ, i64_w, i32_w]
          rfl
        refine pure_ (i := 11) (N := some 41) (v := ?_) (a' := ?_) #[true, true, true, true, true, true, true, true, true, true, true, true, false] rfl rfl (by kernel_rfl) (fun _ _ _ h => h) (Or.inl ⟨by rfl, ?_⟩) ?_ ?_
        rotate_left
        · intro w'
          go_simp
          with_reducible rfl
        rotate_left
        · simp only [Act.put, List.setIfInBounds_toArray, List.set_cons_zero, List.set_cons_succ, i64_w, i32_w]
          rfl
        refine last_ (i := 12) (N := none) #[true, true, true, true, true, true, true, true, true, true, true, true, true] rfl rfl (by kernel_rfl) (by decide) (fun K hK => ?_)
        refine skip_ (w1 := ?_) (by rfl) rfl ?_ ?_
        rotate_left
        · go_simp
          rfl
        refine hK.out _ _ ?_
        clear hK K
        refine done_ (by kernel_rfl) ?_
        clear hHeld
        go_wp2
        go_roundw
        case rel =>
          have e2 : wrap64 (L1 - (t.keys[k].text.size : Int)) = L1 - (t.keys[k].text.size : Int) := w64 (by omega)
          have hs := hI.out.2.2.2.step h0 (x := t.keys[k].text.size) (by omega) (by rw [WI_eq t]; have := sum_take_le (fun k : Ky => k.text.size) t.keys (k + 1); rw [sum_take_succ _ _ _ hlt] at this; omega)
          have hb := hs.bd hL1
          simp only [e2]
          refine ⟨k + 1, _, by omega, by go_num, hb.1, hb.2, set_blk hI.out.1 0 _, set_old hI.out.2.1 (show w.heap.size ≠ pb from by omega), (hI.out.2.2.1.drew.setCell (p := ⟨pb, 0, none⟩) (.inl rfl) _), ?_⟩
          rw [sum_take_succ _ _ _ hlt]
          simpa [Nat.add_assoc] using hs
        case measure => simp [intOf]; omega
      · have hJ : SpI (1 + t.keys.length + (t.keys.map fun k => k.text.size).sum) (WI t) L L1 := by
          by_cases h0 : 0 ≤ L1
          · have : k = t.keys.length := by omega
            have := hI.out.2.2.2
            rwa [‹k = t.keys.length›, List.take_length] at this
          · exact hI.out.2.2.2.neg (by omega)
        have HJ := Lib.hid hJ
        clear hJ
        have hcases : ¬ k < t.keys.length ∨ (k < t.keys.length ∧ L1 < 0) := by omega
        have HPX := Lib.hid hI.out.1
        have HBX := Lib.hid hI.out.2.1
        have HKP := Lib.hid hI.out.2.2.1
        clear hI hc
        rcases hcases with hc | ⟨hc, hc2⟩
        all_goals
          go_wp2
          obtain ⟨wo, rfl⟩ : ∃ wo : World, wo = wr := ⟨_, rfl⟩
          go_loopw [6] (fun i wr => ∃ (k : Nat) (L1 : Int), k ≤ t.kids.length ∧ i = .int .i64 k ∧ -1125899906842624 ≤ L1 ∧ L1 ≤ 1000000 ∧ Hid (
            wr.heap[pb]? = some (.cells #[.int .i64 L1] 3 (0, 0)) ∧ wr.heap[w.heap.size]? = some (.cells #[.int .i64 t.kind, .string t.name, .string t.text, .slice ak t.keys.length ck, .slice a1 t.kids.length c1, .slice a2 t.more.length c2] 25 (0, 0)) ∧ Kp (· = pb) w wr ∧
            SpI (1 + t.keys.length + (t.keys.map fun k => k.text.size).sum + ((t.kids.take k).map WI).sum) (WI t) L L1)) (fun i _ => t.kids.length - (intOf i).toNat)
          case atStart => exact ⟨0, L1, Nat.zero_le _, rfl, hl1, hl2, HPX.out, HBX.out, HKP.out, by simpa using HJ.out⟩
          case round =>
            clear HPX HBX HKP HJ hl1 hl2 b0 b1 b2 b3 b4 b5 q0 q1
            obtain ⟨k2, L2, hk2, rfl, hl1, hl2, hI⟩ := hrel
            obtain ⟨b0, b1, b2, b3, b4, b5⟩ := cells6 hI.out.2.1
            obtain ⟨q0, q1⟩ := cells1 hI.out.1
            by_cases hc3 : k2 < t.kids.length ∧ 0 ≤ L2
            · obtain ⟨hlt, h0⟩ := hc3
              have hm1 := kp_mle HM.out HA.out hI.out.2.2.1
              obtain ⟨b, off, kd, nm, tx, ak', nk, ck', a1', n1, c1', a2', n2, c2', rfl, e0, e1, e2, e3, e4, e5, hkv⟩ := H1.out.at hlt
              replace e0 := hm1 _ _ e0
              replace e1 := hm1 _ _ e1
              replace e2 := hm1 _ _ e2
              replace e3 := hm1 _ _ e3
              replace e4 := hm1 _ _ e4
              replace e5 := hm1 _ _ e5
              have HKV := Lib.hid hkv
              have HM1 := Lib.hid hm1
              have HSk := Lib.hid (show SizeOf.sizeOf t.kids[k2] < n from by have := IT.lt_kid' (t := t) (List.getElem_mem hlt); have := HN.out; omega)
              have HBk := Lib.hid (HB5.out _ (List.getElem_mem hlt))
              clear hkv hm1
              go_wp2_with (go_at_call 42; refine (IH.out _ m _ _ _ _ _ _ _ _ _ _ _ _ pb L2 _ HSk.out HBk.out HKV.out HM1.out HA.out h0 hl2 hI.out.1).mono ?_; rintro e w' ⟨L9, hs3, rfl, hk3, hp3⟩)
              go_roundw
              case rel =>
                have hs := hI.out.2.2.2.part h0 hs3 (by rw [WI_eq t]; have := sum_take_le WI t.kids (k2 + 1); rw [sum_take_succ _ _ _ hlt] at this; omega)
                have hb := hs.bd hL1
                refine ⟨k2 + 1, L9, by omega, by go_num, hb.1, hb.2, hp3, hk3.heap hI.out.2.1 (by omega), hI.out.2.2.1.trans hk3, ?_⟩
                rw [sum_take_succ _ _ _ hlt]
                simpa [Nat.add_assoc] using hs
              case measure => simp [intOf]; omega
            · have hJ : SpI (1 + t.keys.length + (t.keys.map fun k => k.text.size).sum + (t.kids.map WI).sum) (WI t) L L2 := by
                by_cases h0 : 0 ≤ L2
                · have : k2 = t.kids.length := by omega
                  have := hI.out.2.2.2
                  rwa [‹k2 = t.kids.length›, List.take_length] at this
                · exact hI.out.2.2.2.neg (by omega)
              have HJ := Lib.hid hJ
              clear hJ
              have hcases : ¬ k2 < t.kids.length ∨ (k2 < t.kids.length ∧ L2 < 0) := by omega
              have HPX := Lib.hid hI.out.1
              have HBX := Lib.hid hI.out.2.1
              have HKP := Lib.hid hI.out.2.2.1
              clear hI hc3
              rcases hcases with hc3 | ⟨hc3, hc4⟩
              all_goals
                go_wp2
                obtain ⟨wo, rfl⟩ : ∃ wo : World, wo = wr := ⟨_, rfl⟩
                go_loopw [7] (fun i wr => ∃ (k : Nat) (L1 : Int), k ≤ t.more.length ∧ i = .int .i64 k ∧ -1125899906842624 ≤ L1 ∧ L1 ≤ 1000000 ∧ Hid (
                  wr.heap[pb]? = some (.cells #[.int .i64 L1] 3 (0, 0)) ∧ wr.heap[w.heap.size]? = some (.cells #[.int .i64 t.kind, .string t.name, .string t.text, .slice ak t.keys.length ck, .slice a1 t.kids.length c1, .slice a2 t.more.length c2] 25 (0, 0)) ∧ Kp (· = pb) w wr ∧
                  SpI (1 + t.keys.length + (t.keys.map fun k => k.text.size).sum + (t.kids.map WI).sum + ((t.more.take k).map WI).sum) (WI t) L L1)) (fun i _ => t.more.length - (intOf i).toNat)
                case atStart => exact ⟨0, L2, Nat.zero_le _, rfl, hl1, hl2, HPX.out, HBX.out, HKP.out, by simpa using HJ.out⟩
                case round =>
                  clear HPX HBX HKP HJ hl1 hl2 b0 b1 b2 b3 b4 b5 q0 q1
                  obtain ⟨k3, L3, hk9, rfl, hl1, hl2, hI⟩ := hrel
                  obtain ⟨b0, b1, b2, b3, b4, b5⟩ := cells6 hI.out.2.1
                  obtain ⟨q0, q1⟩ := cells1 hI.out.1
                  by_cases hc3 : k3 < t.more.length ∧ 0 ≤ L3
                  · obtain ⟨hlt, h0⟩ := hc3
                    have hm1 := kp_mle HM.out HA.out hI.out.2.2.1
                    obtain ⟨b, off, kd, nm, tx, ak', nk, ck', a1', n1, c1', a2', n2, c2', rfl, e0, e1, e2, e3, e4, e5, hkv⟩ := H2.out.at hlt
                    replace e0 := hm1 _ _ e0
                    replace e1 := hm1 _ _ e1
                    replace e2 := hm1 _ _ e2
                    replace e3 := hm1 _ _ e3
                    replace e4 := hm1 _ _ e4
                    replace e5 := hm1 _ _ e5
                    have HKV := Lib.hid hkv
                    have HM1 := Lib.hid hm1
                    have HSk := Lib.hid (show SizeOf.sizeOf t.more[k3] < n from by have := IT.lt_more' (t := t) (List.getElem_mem hlt); have := HN.out; omega)
                    have HBk := Lib.hid (HB7.out _ (List.getElem_mem hlt))
                    clear hkv hm1
                    go_wp2_with (go_at_call 42; refine (IH.out _ m _ _ _ _ _ _ _ _ _ _ _ _ pb L3 _ HSk.out HBk.out HKV.out HM1.out HA.out h0 hl2 hI.out.1).mono ?_; rintro e w' ⟨L9, hs3, rfl, hk9, hp3⟩)
                    go_roundw
                    case rel =>
                      have hs := hI.out.2.2.2.part h0 hs3 (by rw [WI_eq t]; have := sum_take_le WI t.more (k3 + 1); rw [sum_take_succ _ _ _ hlt] at this; omega)
                      have hb := hs.bd hL1
                      refine ⟨k3 + 1, L9, by omega, by go_num, hb.1, hb.2, hp3, hk9.heap hI.out.2.1 (by omega), hI.out.2.2.1.trans hk9, ?_⟩
                      rw [sum_take_succ _ _ _ hlt]
                      simpa [Nat.add_assoc] using hs
                    case measure => simp [intOf]; omega
                  · have hJ : SpI (WI t) (WI t) L L3 := by
                      by_cases h0 : 0 ≤ L3
                      · have : k3 = t.more.length := by omega
                        have := hI.out.2.2.2
                        rwa [‹k3 = t.more.length›, List.take_length, ← WI_eq t] at this
                      · exact hI.out.2.2.2.neg (by omega)
                    have HJ := Lib.hid hJ
                    clear hJ
                    have hcases : ¬ k3 < t.more.length ∨ (k3 < t.more.length ∧ L3 < 0) := by omega
                    have HPX := Lib.hid hI.out.1
                    have HBX := Lib.hid hI.out.2.1
                    have HKP := Lib.hid hI.out.2.2.1
                    clear hI hc3
                    by_cases h0 : 0 ≤ L3
                    · rcases hcases with hc5 | ⟨hc5, hc6⟩
                      · go_wp2
                        go_ret
                        exact ⟨L3, HJ.out, by simp [h0], HKP.out, HPX.out⟩
                      · omega
                    · rcases hcases with hc5 | ⟨hc5, hc6⟩
                      all_goals
                        go_wp2
                        go_ret
                        exact ⟨L3, HJ.out, by simp [h0], HKP.out, HPX.out⟩
end Go.Proofs.YtaglgokeejjagaaGreat
