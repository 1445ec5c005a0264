/- Proved: 'value', 'kind' and 'given' answer valOf, kindOf and givenOf. Conditions: what they are given lies in memory as MV and MIT say, within BdV and BdI. -/
import Derived.Test.YtaglgokeejjagaaGreatOwn
import Derived.Test.YtaglgokeejjagaaGreatWLast
namespace Go.Proofs.YtaglgokeejjagaaGreat
set_option linter.unusedVariables false
set_option linter.unusedSimpArgs false
open Go.RowKit Go.Sort Go.Proofs.YtaglgokeejjagaaGreatW.PrintLast

def SpPost (W : Nat) (L : Int) (pb : Nat) (w : World) (e : Ending) (w' : World) : Prop :=
  ∃ L', Sp W L L' ∧ e = .returned (.bool (decide (0 ≤ L'))) ∧ Kp (· = pb) w w' ∧ w'.heap[pb]? = some (.cells #[.int .i64 L'] 3 (0, 0))

set_option maxHeartbeats 2000000 in
set_option maxRecDepth 100000 in
theorem spacious_any (n : Nat) : ∀ (t : Vl) (m : Mem) (kd : Int) (tx : ByteArray) (ak : Option Addr) (nk ck : Nat) (a1 : Option Addr) (n1 c1 : Nat) (pb : Nat) (L : Int) (w : World), SizeOf.sizeOf t < n → BdV t → MV m (vlCells kd tx ak nk ck a1 n1 c1) t → MLe m w.cell? → Av m pb →
    0 ≤ L → L ≤ 1000000 → w.heap[pb]? = some (.cells #[.int .i64 L] 3 (0, 0)) →
    Calls Tryz.prog 38 #[.agg #[.int .i64 kd, .string tx, .slice ak nk ck, .slice a1 n1 c1], .pointer (some ⟨pb, 0, none⟩)] w (SpPost (WV t) L pb w) := by
  induction n with
  | zero => intro t m kd tx ak nk ck a1 n1 c1 pb L w h; exact absurd h (Nat.not_lt_zero _)
  | succ n ih =>
    intro t m kd tx ak nk ck a1 n1 c1 pb L w hn hw hv hm ha hL0 hL1 hp
    have IH := Lib.hid ih
    clear ih
    obtain ⟨rfl, rfl, rfl, rfl, ⟨lk1, lk2⟩, ⟨l11, l12⟩, rk, r1⟩ := hv.open
    obtain ⟨hb1, hb2, hb3, hb4, hb5⟩ := hw.out
    have hplt := lt_blk hp
    have HK := Lib.hid rk
    have H1 := Lib.hid r1
    have HM := Lib.hid hm
    have HA := Lib.hid ha
    have HN := Lib.hid hn
    have HP := Lib.hid hp
    have HB3 := Lib.hid hb3
    have HB5 := Lib.hid hb5
    clear rk r1 hm hn hv ha hp hb3 hb5
    go_enter Tryz.func38, Tryz.ntmps38
    go_wp2
    have HX := Lib.hid (show (w.alloc (.cells #[.int .i64 t.kind, .string t.text, .slice ak t.keys.length ck, .slice a1 t.kids.length c1] 29)).heap[w.heap.size]? = _ from al_new rfl)
    have HQ := Lib.hid (show (w.alloc (.cells #[.int .i64 t.kind, .string t.text, .slice ak t.keys.length ck, .slice a1 t.kids.length c1] 29)).heap[pb]? = _ from al_old HP.out)
    have cq := cells1 HQ.out
    refine start_ (n := 14) (S := fun w' => w'.cell? ⟨pb, 0, none⟩ = some (.int .i64 L) ∧ w'.cell? ⟨w.heap.size, 1, none⟩ = some (.string t.text) ∧ w'.cell? ⟨w.heap.size, 2, none⟩ = some (.slice ak t.keys.length ck)) (ds := [13]) (lb 14 0) (by kernel_rfl) rfl rfl ⟨cell_blk HQ.out 0 rfl, cell_blk HX.out 1 rfl, cell_blk HX.out 2 rfl⟩ (fun hHeld => ?_)
    refine pure_ (i := 0) (N := some 7) (v := ?_) (a' := ?_) (lb 14 1) rfl rfl (by kernel_rfl) (fun _ _ _ h => h) (Or.inl ⟨by rfl, ?_⟩) ?_ ?_
    rotate_left
    · intro w'
      go_simp
      with_reducible rfl
    rotate_left
    · simp only [Act.put, nrA, nrB, nrC, i64_w, i32_w]
      rfl
    refine pure_ (i := 1) (N := some 8) (v := ?_) (a' := ?_) (lb 14 3) rfl rfl (by kernel_rfl) (fun _ _ _ h => h) (Or.inl ⟨by rfl, ?_⟩) ?_ ?_
    rotate_left
    · intro w'
      go_simp
      with_reducible rfl
    rotate_left
    · simp only [Act.put, nrA, nrB, nrC, i64_w, i32_w]
      rfl
    refine pure_ (i := 3) (N := some 10) (v := ?_) (a' := ?_) (lb 14 11) rfl rfl (by kernel_rfl) (fun _ _ _ h => h) (Or.inl ⟨by rfl, ?_⟩) ?_ ?_
    rotate_left
    · intro w'
      go_simp
      with_reducible rfl
    rotate_left
    · simp only [Act.put, nrA, nrB, nrC, i64_w, i32_w]
      rfl
    refine pure_ (i := 7) (N := some 14) (v := ?_) (a' := ?_) (lb 14 139) rfl rfl (by kernel_rfl) (fun _ _ _ h => h) (Or.inl ⟨by rfl, ?_⟩) ?_ ?_
    rotate_left
    · intro w'
      go_simp
      with_reducible rfl
    rotate_left
    · simp only [Act.put, nrA, nrB, nrC, i64_w, i32_w]
      rfl
    refine take_ (i := 2) (N := some 9) (v := ?_) (a' := ?_) (lb 14 143) rfl rfl (by kernel_rfl) (fun _ _ _ h => h) (Or.inl ⟨by rfl, ?_⟩) hHeld ?_ ?_
    rotate_left
    · rintro w' ⟨s0, s1, s2⟩
      go_simp
      with_reducible rfl
    rotate_left
    · simp only [Act.put, nrA, nrB, nrC, i64_w, i32_w]
      rfl
    refine take_ (i := 4) (N := some 11) (v := ?_) (a' := ?_) (lb 14 159) rfl rfl (by kernel_rfl) (fun _ _ _ h => h) (Or.inl ⟨by rfl, ?_⟩) hHeld ?_ ?_
    rotate_left
    · rintro w' ⟨s0, s1, s2⟩
      go_simp
      with_reducible rfl
    rotate_left
    · simp only [Act.put, nrA, nrB, nrC, i64_w, i32_w]
      rfl
    refine pure_ (i := 5) (N := some 12) (v := ?_) (a' := ?_) (lb 14 191) rfl rfl (by kernel_rfl) (fun _ _ _ h => h) (Or.inl ⟨by rfl, ?_⟩) ?_ ?_
    rotate_left
    · intro w'
      go_simp
      with_reducible rfl
    rotate_left
    · simp only [Act.put, nrA, nrB, nrC, i64_w, i32_w]
      rfl
    refine pure_ (i := 6) (N := some 13) (v := ?_) (a' := ?_) (lb 14 255) rfl rfl (by kernel_rfl) (fun _ _ _ h => h) (Or.inl ⟨by rfl, ?_⟩) ?_ ?_
    rotate_left
    · intro w'
      go_simp
      with_reducible rfl
    rotate_left
    · simp only [Act.put, nrA, nrB, nrC, i64_w, i32_w]
      rfl
    refine take_ (i := 8) (N := some 15) (v := ?_) (a' := ?_) (lb 14 511) rfl rfl (by kernel_rfl) (fun _ _ _ h => h) (Or.inl ⟨by rfl, ?_⟩) hHeld ?_ ?_
    rotate_left
    · rintro w' ⟨s0, s1, s2⟩
      go_simp
      with_reducible rfl
    rotate_left
    · simp only [Act.put, nrA, nrB, nrC, i64_w, i32_w]
      rfl
    refine pure_ (i := 9) (N := some 16) (v := ?_) (a' := ?_) (lb 14 1023) rfl rfl (by kernel_rfl) (fun _ _ _ h => h) (Or.inl ⟨by rfl, ?_⟩) ?_ ?_
    rotate_left
    · intro w'
      go_simp
      with_reducible rfl
    rotate_left
    · simp only [Act.put, nrA, nrB, nrC, i64_w, i32_w]
      rfl
    refine pure_ (i := 10) (N := some 17) (v := ?_) (a' := ?_) (lb 14 2047) rfl rfl (by kernel_rfl) (fun _ _ _ h => h) (Or.inl ⟨by rfl, ?_⟩) ?_ ?_
    rotate_left
    · intro w'
      go_simp
      with_reducible rfl
    rotate_left
    · simp only [Act.put, nrA, nrB, nrC, i64_w, i32_w]
      rfl
    refine pure_ (i := 11) (N := some 18) (v := ?_) (a' := ?_) (lb 14 4095) rfl rfl (by kernel_rfl) (fun _ _ _ h => h) (Or.inl ⟨by rfl, ?_⟩) ?_ ?_
    rotate_left
    · intro w'
      go_simp
      with_reducible rfl
    rotate_left
    · simp only [Act.put, nrA, nrB, nrC, i64_w, i32_w]
      rfl
    refine pure_ (i := 12) (N := some 19) (v := ?_) (a' := ?_) (lb 14 8191) rfl rfl (by kernel_rfl) (fun _ _ _ h => h) (Or.inl ⟨by rfl, ?_⟩) ?_ ?_
    rotate_left
    · intro w'
      go_simp
      with_reducible rfl
    rotate_left
    · simp only [Act.put, nrA, nrB, nrC, i64_w, i32_w]
      rfl
    refine last_ (i := 13) (N := none) (lb 14 16383) rfl rfl (by kernel_rfl) (by decide) (fun K hK => ?_)
    obtain ⟨cq0, cq1⟩ := cq
    refine skip_ (w1 := ?_) (by rfl) rfl ?_ ?_
    rotate_left
    · go_simp
      rfl
    refine hK.out _ _ ?_
    clear hK K
    refine done_ (by kernel_rfl) ?_
    clear hHeld
    go_wp2
    have e1 : wrap64 (L - wrap64 (wrap64 (1 + (t.text.size : Int)) + t.keys.length)) = L - ((1 + t.text.size + t.keys.length : Nat) : Int) := by
      rw [w64 (n := 1 + (t.text.size : Int)) (by omega), w64 (n := 1 + (t.text.size : Int) + t.keys.length) (by omega), w64 (by omega)]; omega
    have E1 := Lib.hid e1
    clear e1 cq0 cq1
    go_loopw [5] (fun i wr => ∃ (k : Nat) (L1 : Int), k ≤ t.keys.length ∧ i = .int .i64 k ∧ -1125899906842624 ≤ L1 ∧ L1 ≤ 1000000 ∧ Hid (
        wr.heap[pb]? = some (.cells #[.int .i64 L1] 3 (0, 0)) ∧
        wr.heap[w.heap.size]? = some (.cells #[.int .i64 t.kind, .string t.text, .slice ak t.keys.length ck, .slice a1 t.kids.length c1] 29 (0, 0)) ∧ Kp (· = pb) w wr ∧
        SpI (1 + t.text.size + t.keys.length + ((t.keys.take k).map ByteArray.size).sum) (WV t) L L1)) (fun i _ => t.keys.length - (intOf i).toNat)
    case atStart =>
      have hs : SpI (1 + t.text.size + t.keys.length) (WV t) L (L - ((1 + t.text.size + t.keys.length : Nat) : Int)) := by
        have h0 : SpI 0 (WV t) L L := .inl ⟨hL0, by omega⟩
        have := h0.step hL0 (x := 1 + t.text.size + t.keys.length) (by omega) (by rw [WV_eq t]; omega)
        rwa [Nat.zero_add] at this
      have hb := hs.bd hL1
      rw [E1.out]
      refine ⟨0, _, Nat.zero_le _, rfl, hb.1, hb.2, ?_, ?_, ?_, ?_⟩
      · exact al_old (set_blk HP.out 0 _)
      · exact al_new (by simp)
      · exact (((Kp.refl (· = pb) w).setCell (p := ⟨pb, 0, none⟩) (.inl rfl) _).alloc _).drew
      · simpa using hs
    case round =>
      obtain ⟨k, L1, hk, rfl, hl1, hl2, hI⟩ := hrel
      obtain ⟨b0, b1, b2, b3⟩ := cells4 hI.out.2.1
      obtain ⟨q0, q1⟩ := cells1 hI.out.1
      by_cases hc : k < t.keys.length ∧ 0 ≤ L1
      · obtain ⟨hlt, h0⟩ := hc
        have hm1 := kp_mle HM.out HA.out hI.out.2.2.1
        obtain ⟨b, off, rfl, e0⟩ := HK.out.at hlt
        replace e0 := hm1 _ _ e0
        have hsz := HB3.out _ (List.getElem_mem hlt)
        clear hm1
        go_wp2
        refine start_ (n := 12) (S := fun w' => w'.cell? ⟨pb, 0, none⟩ = some (.int .i64 L1) ∧ w'.cell? ⟨w.heap.size, 2, none⟩ = some (.slice (some ⟨b, off, none⟩) t.keys.length ck) ∧ w'.cell? ⟨b, off + k, none⟩ = some (.string t.keys[k])) (ds := [11]) (lb 12 0) (by kernel_rfl) rfl rfl ⟨q0, b2, e0⟩ (fun hHeld => ?_)
        refine pure_ (i := 0) (N := some 33) (v := ?_) (a' := ?_) (lb 12 1) rfl rfl (by kernel_rfl) (fun _ _ _ h => h) (Or.inl ⟨by rfl, ?_⟩) ?_ ?_
        rotate_left
        · intro w'
          go_simp
          with_reducible rfl
        rotate_left
        · simp only [Act.put, nrA, nrB, nrC, i64_w, i32_w]
          rfl
        refine pure_ (i := 1) (N := some 34) (v := ?_) (a' := ?_) (lb 12 3) rfl rfl (by kernel_rfl) (fun _ _ _ h => h) (Or.inl ⟨by rfl, ?_⟩) ?_ ?_
        rotate_left
        · intro w'
          go_simp
          with_reducible rfl
        rotate_left
        · simp only [Act.put, nrA, nrB, nrC, i64_w, i32_w]
          rfl
        refine pure_ (i := 3) (N := some 36) (v := ?_) (a' := ?_) (lb 12 11) rfl rfl (by kernel_rfl) (fun _ _ _ h => h) (Or.inl ⟨by rfl, ?_⟩) ?_ ?_
        rotate_left
        · intro w'
          go_simp
          with_reducible rfl
        rotate_left
        · simp only [Act.put, nrA, nrB, nrC, i64_w, i32_w]
          rfl
        refine pure_ (i := 5) (N := some 38) (v := ?_) (a' := ?_) (lb 12 43) rfl rfl (by kernel_rfl) (fun _ _ _ h => h) (Or.inl ⟨by rfl, ?_⟩) ?_ ?_
        rotate_left
        · intro w'
          go_simp
          with_reducible rfl
        rotate_left
        · simp only [Act.put, nrA, nrB, nrC, i64_w, i32_w]
          rfl
        refine take_ (i := 2) (N := some 35) (v := ?_) (a' := ?_) (lb 12 47) rfl rfl (by kernel_rfl) (fun _ _ _ h => h) (Or.inl ⟨by rfl, ?_⟩) hHeld ?_ ?_
        rotate_left
        · rintro w' ⟨s0, s1, s2⟩
          go_simp
          with_reducible rfl
        rotate_left
        · simp only [Act.put, nrA, nrB, nrC, i64_w, i32_w]
          rfl
        refine take_ (i := 4) (N := some 37) (v := ?_) (a' := ?_) (lb 12 63) rfl rfl (by kernel_rfl) (fun _ _ _ h => h) (Or.inl ⟨by rfl, ?_⟩) hHeld ?_ ?_
        rotate_left
        · rintro w' ⟨s0, s1, s2⟩
          go_simp
          with_reducible rfl
        rotate_left
        · simp only [Act.put, nrA, nrB, nrC, i64_w, i32_w]
          rfl
        refine pure_ (i := 6) (N := some 39) (v := ?_) (a' := ?_) (lb 12 127) rfl rfl (by kernel_rfl) (fun _ _ _ h => h) (Or.inl ⟨by rfl, ?_⟩) ?_ ?_
        rotate_left
        · intro w'
          go_simp
          with_reducible rfl
        rotate_left
        · simp only [Act.put, nrA, nrB, nrC, i64_w, i32_w]
          rfl
        refine take_ (i := 7) (N := some 40) (v := ?_) (a' := ?_) (lb 12 255) rfl rfl (by kernel_rfl) (fun _ _ _ h => h) (Or.inl ⟨by rfl, ?_⟩) hHeld ?_ ?_
        rotate_left
        · rintro w' ⟨s0, s1, s2⟩
          go_simp
          with_reducible rfl
        rotate_left
        · simp only [Act.put, nrA, nrB, nrC, i64_w, i32_w]
          rfl
        refine pure_ (i := 8) (N := some 41) (v := ?_) (a' := ?_) (lb 12 511) rfl rfl (by kernel_rfl) (fun _ _ _ h => h) (Or.inl ⟨by rfl, ?_⟩) ?_ ?_
        rotate_left
        · intro w'
          go_simp
          with_reducible rfl
        rotate_left
        · simp only [Act.put, nrA, nrB, nrC, i64_w, i32_w]
          rfl
        refine pure_ (i := 9) (N := some 42) (v := ?_) (a' := ?_) (lb 12 1023) rfl rfl (by kernel_rfl) (fun _ _ _ h => h) (Or.inl ⟨by rfl, ?_⟩) ?_ ?_
        rotate_left
        · intro w'
          go_simp
          with_reducible rfl
        rotate_left
        · simp only [Act.put, nrA, nrB, nrC, i64_w, i32_w]
          rfl
        refine pure_ (i := 10) (N := some 43) (v := ?_) (a' := ?_) (lb 12 2047) rfl rfl (by kernel_rfl) (fun _ _ _ h => h) (Or.inl ⟨by rfl, ?_⟩) ?_ ?_
        rotate_left
        · intro w'
          go_simp
          with_reducible rfl
        rotate_left
        · simp only [Act.put, nrA, nrB, nrC, i64_w, i32_w]
          rfl
        refine last_ (i := 11) (N := none) (lb 12 4095) rfl rfl (by kernel_rfl) (by decide) (fun K hK => ?_)
        refine skip_ (w1 := ?_) (by rfl) rfl ?_ ?_
        rotate_left
        · go_simp
          rfl
        refine hK.out _ _ ?_
        clear hK K
        refine done_ (by kernel_rfl) ?_
        clear hHeld
        go_wp2
        go_roundw
        case rel =>
          have e2 : wrap64 (L1 - (t.keys[k].size : Int)) = L1 - (t.keys[k].size : Int) := w64 (by omega)
          have hs := hI.out.2.2.2.step h0 (x := t.keys[k].size) (by omega) (by rw [WV_eq t]; have := sum_take_le ByteArray.size t.keys (k + 1); rw [sum_take_succ _ _ _ hlt] at this; omega)
          have hb := hs.bd hL1
          simp only [e2]
          refine ⟨k + 1, _, by omega, by go_num, hb.1, hb.2, set_blk hI.out.1 0 _, set_old hI.out.2.1 (show w.heap.size ≠ pb from by omega), (hI.out.2.2.1.drew.setCell (p := ⟨pb, 0, none⟩) (.inl rfl) _), ?_⟩
          rw [sum_take_succ _ _ _ hlt]
          simpa [Nat.add_assoc] using hs
        case measure => simp [intOf]; omega
      · have hJ : SpI (1 + t.text.size + t.keys.length + (t.keys.map ByteArray.size).sum) (WV t) L L1 := by
          by_cases h0 : 0 ≤ L1
          · have : k = t.keys.length := by omega
            have := hI.out.2.2.2
            rwa [‹k = t.keys.length›, List.take_length] at this
          · exact hI.out.2.2.2.neg (by omega)
        have HJ := Lib.hid hJ
        clear hJ
        have hcases : ¬ k < t.keys.length ∨ (k < t.keys.length ∧ L1 < 0) := by omega
        have HPX := Lib.hid hI.out.1
        have HBX := Lib.hid hI.out.2.1
        have HKP := Lib.hid hI.out.2.2.1
        clear hI hc
        rcases hcases with hc | ⟨hc, hc2⟩
        all_goals
          go_wp2
          obtain ⟨wo, rfl⟩ : ∃ wo : World, wo = wr := ⟨_, rfl⟩
          go_loopw [6] (fun i wr => ∃ (k : Nat) (L1 : Int), k ≤ t.kids.length ∧ i = .int .i64 k ∧ -1125899906842624 ≤ L1 ∧ L1 ≤ 1000000 ∧ Hid (
            wr.heap[pb]? = some (.cells #[.int .i64 L1] 3 (0, 0)) ∧
            wr.heap[w.heap.size]? = some (.cells #[.int .i64 t.kind, .string t.text, .slice ak t.keys.length ck, .slice a1 t.kids.length c1] 29 (0, 0)) ∧ Kp (· = pb) w wr ∧
            SpI (1 + t.text.size + t.keys.length + (t.keys.map ByteArray.size).sum + ((t.kids.take k).map WV).sum) (WV t) L L1)) (fun i _ => t.kids.length - (intOf i).toNat)
          case atStart => exact ⟨0, L1, Nat.zero_le _, rfl, hl1, hl2, HPX.out, HBX.out, HKP.out, by simpa using HJ.out⟩
          case round =>
            clear HPX HBX HKP HJ hl1 hl2 b0 b1 b2 b3 q0 q1
            obtain ⟨k2, L2, hk2, rfl, hm1, hm2, hI⟩ := hrel
            obtain ⟨b0, b1, b2, b3⟩ := cells4 hI.out.2.1
            obtain ⟨q0, q1⟩ := cells1 hI.out.1
            by_cases hc3 : k2 < t.kids.length ∧ 0 ≤ L2
            · obtain ⟨hlt, h0⟩ := hc3
              have hm1 := kp_mle HM.out HA.out hI.out.2.2.1
              obtain ⟨b, off, kd, tx, ak', nk, ck', a1', n1, c1', rfl, e0, e1, e2, e3, hkv⟩ := H1.out.at hlt
              replace e0 := hm1 _ _ e0
              replace e1 := hm1 _ _ e1
              replace e2 := hm1 _ _ e2
              replace e3 := hm1 _ _ e3
              have HKV := Lib.hid hkv
              have HM1 := Lib.hid hm1
              have HSk := Lib.hid (show SizeOf.sizeOf t.kids[k2] < n from by have := Vl.lt_kid' (t := t) (List.getElem_mem hlt); have := HN.out; omega)
              have HBk := Lib.hid (HB5.out _ (List.getElem_mem hlt))
              clear hkv hm1
              go_wp2_with (go_at_call 38; refine (IH.out _ m _ _ _ _ _ _ _ _ pb L2 _ HSk.out HBk.out HKV.out HM1.out HA.out h0 hm2 hI.out.1).mono ?_; rintro e w' ⟨L3, hs3, rfl, hk3, hp3⟩)
              go_roundw
              case rel =>
                have hs := hI.out.2.2.2.part h0 hs3 (by rw [WV_eq t]; have := sum_take_le WV t.kids (k2 + 1); rw [sum_take_succ _ _ _ hlt] at this; omega)
                have hb := hs.bd hL1
                refine ⟨k2 + 1, L3, by omega, by go_num, hb.1, hb.2, hp3, hk3.heap hI.out.2.1 (by omega), hI.out.2.2.1.trans hk3, ?_⟩
                rw [sum_take_succ _ _ _ hlt]
                simpa [Nat.add_assoc] using hs
              case measure => simp [intOf]; omega
            · have hJ : SpI (WV t) (WV t) L L2 := by
                by_cases h0 : 0 ≤ L2
                · have : k2 = t.kids.length := by omega
                  have := hI.out.2.2.2
                  rwa [‹k2 = t.kids.length›, List.take_length, ← WV_eq t] at this
                · exact hI.out.2.2.2.neg (by omega)
              have HJ := Lib.hid hJ
              clear hJ
              have hcases : ¬ k2 < t.kids.length ∨ (k2 < t.kids.length ∧ L2 < 0) := by omega
              have HPX := Lib.hid hI.out.1
              have HKP := Lib.hid hI.out.2.2.1
              clear hI hc3
              by_cases h0 : 0 ≤ L2
              · rcases hcases with hc | ⟨hc, hc2⟩
                · go_wp2
                  go_ret
                  exact ⟨L2, HJ.out, by simp [h0], HKP.out, HPX.out⟩
                · omega
              · rcases hcases with hc | ⟨hc, hc2⟩
                all_goals
                  go_wp2
                  go_ret
                  exact ⟨L2, HJ.out, by simp [h0], HKP.out, HPX.out⟩
end Go.Proofs.YtaglgokeejjagaaGreat
namespace Go.Proofs.YtaglgokeejjagaaGreat
set_option linter.unusedVariables false
set_option linter.unusedSimpArgs false
open Go.RowKit Go.Sort Go.Proofs.YtaglgokeejjagaaGreatW.PrintLast

set_option maxHeartbeats 4000000 in
set_option maxRecDepth 100000 in
theorem roomy_any (n : Nat) : ∀ (t : IT) (m : Mem) (kd : Int) (nm tx : ByteArray) (ak : Option Addr) (nk ck : Nat) (a1 : Option Addr) (n1 c1 : Nat) (a2 : Option Addr) (n2 c2 : Nat) (pb : Nat) (L : Int) (w : World), SizeOf.sizeOf t < n → BdI t → MIT m (itCells kd nm tx ak nk ck a1 n1 c1 a2 n2 c2) t → MLe m w.cell? → Av m pb →
    0 ≤ L → L ≤ 1000000 → w.heap[pb]? = some (.cells #[.int .i64 L] 3 (0, 0)) →
    Calls Tryz.prog 42 #[.agg #[.int .i64 kd, .string nm, .string tx, .slice ak nk ck, .slice a1 n1 c1, .slice a2 n2 c2], .pointer (some ⟨pb, 0, none⟩)] w (SpPost (WI t) L pb w) := by
  induction n with
  | zero => intro t m kd nm tx ak nk ck a1 n1 c1 a2 n2 c2 pb L w h; exact absurd h (Nat.not_lt_zero _)
  | succ n ih =>
    intro t m kd nm tx ak nk ck a1 n1 c1 a2 n2 c2 pb L w hn hw hv hm ha hL0 hL1 hp
    have IH := Lib.hid ih
    clear ih
    obtain ⟨rfl, rfl, rfl, rfl, rfl, rfl, ⟨lk1, lk2⟩, ⟨l11, l12⟩, ⟨l21, l22⟩, rk, r1, r2⟩ := hv.open
    obtain ⟨hb0, hb1, hb2, hb3, hb4, hb5, hb6, hb7⟩ := hw.out
    have hplt := lt_blk hp
    have HK := Lib.hid rk
    have H1 := Lib.hid r1
    have H2 := Lib.hid r2
    have HM := Lib.hid hm
    have HA := Lib.hid ha
    have HN := Lib.hid hn
    have HP := Lib.hid hp
    have HB3 := Lib.hid hb3
    have HB5 := Lib.hid hb5
    have HB7 := Lib.hid hb7
    clear rk r1 r2 hm hn hv ha hp hb3 hb5 hb7
    go_enter Tryz.func42, Tryz.ntmps42
    go_wp2
    have HX := Lib.hid (show (w.alloc (.cells #[.int .i64 t.kind, .string t.name, .string t.text, .slice ak t.keys.length ck, .slice a1 t.kids.length c1, .slice a2 t.more.length c2] 25)).heap[w.heap.size]? = _ from al_new rfl)
    have HQ := Lib.hid (show (w.alloc (.cells #[.int .i64 t.kind, .string t.name, .string t.text, .slice ak t.keys.length ck, .slice a1 t.kids.length c1, .slice a2 t.more.length c2] 25)).heap[pb]? = _ from al_old HP.out)
    have cq := cells1 HQ.out
    refine start_ (n := 10) (S := fun w' => w'.cell? ⟨pb, 0, none⟩ = some (.int .i64 L) ∧ w'.cell? ⟨w.heap.size, 3, none⟩ = some (.slice ak t.keys.length ck)) (ds := [9]) (lb 10 0) (by kernel_rfl) rfl rfl ⟨cell_blk HQ.out 0 rfl, cell_blk HX.out 3 rfl⟩ (fun hHeld => ?_)
    refine pure_ (i := 0) (N := some 8) (v := ?_) (a' := ?_) (lb 10 1) rfl rfl (by kernel_rfl) (fun _ _ _ h => h) (Or.inl ⟨by rfl, ?_⟩) ?_ ?_
    rotate_left
    · intro w'
      go_simp
      with_reducible rfl
    rotate_left
    · simp only [Act.put, nrA, nrB, nrC, i64_w, i32_w]
      rfl
    refine pure_ (i := 1) (N := some 9) (v := ?_) (a' := ?_) (lb 10 3) rfl rfl (by kernel_rfl) (fun _ _ _ h => h) (Or.inl ⟨by rfl, ?_⟩) ?_ ?_
    rotate_left
    · intro w'
      go_simp
      with_reducible rfl
    rotate_left
    · simp only [Act.put, nrA, nrB, nrC, i64_w, i32_w]
      rfl
    refine pure_ (i := 3) (N := some 11) (v := ?_) (a' := ?_) (lb 10 11) rfl rfl (by kernel_rfl) (fun _ _ _ h => h) (Or.inl ⟨by rfl, ?_⟩) ?_ ?_
    rotate_left
    · intro w'
      go_simp
      with_reducible rfl
    rotate_left
    · simp only [Act.put, nrA, nrB, nrC, i64_w, i32_w]
      rfl
    refine take_ (i := 2) (N := some 10) (v := ?_) (a' := ?_) (lb 10 15) rfl rfl (by kernel_rfl) (fun _ _ _ h => h) (Or.inl ⟨by rfl, ?_⟩) hHeld ?_ ?_
    rotate_left
    · rintro w' ⟨s0, s1⟩
      go_simp
      with_reducible rfl
    rotate_left
    · simp only [Act.put, nrA, nrB, nrC, i64_w, i32_w]
      rfl
    refine take_ (i := 4) (N := some 12) (v := ?_) (a' := ?_) (lb 10 31) rfl rfl (by kernel_rfl) (fun _ _ _ h => h) (Or.inl ⟨by rfl, ?_⟩) hHeld ?_ ?_
    rotate_left
    · rintro w' ⟨s0, s1⟩
      go_simp
      with_reducible rfl
    rotate_left
    · simp only [Act.put, nrA, nrB, nrC, i64_w, i32_w]
      rfl
    refine pure_ (i := 5) (N := some 13) (v := ?_) (a' := ?_) (lb 10 63) rfl rfl (by kernel_rfl) (fun _ _ _ h => h) (Or.inl ⟨by rfl, ?_⟩) ?_ ?_
    rotate_left
    · intro w'
      go_simp
      with_reducible rfl
    rotate_left
    · simp only [Act.put, nrA, nrB, nrC, i64_w, i32_w]
      rfl
    refine pure_ (i := 6) (N := some 14) (v := ?_) (a' := ?_) (lb 10 127) rfl rfl (by kernel_rfl) (fun _ _ _ h => h) (Or.inl ⟨by rfl, ?_⟩) ?_ ?_
    rotate_left
    · intro w'
      go_simp
      with_reducible rfl
    rotate_left
    · simp only [Act.put, nrA, nrB, nrC, i64_w, i32_w]
      rfl
    refine pure_ (i := 7) (N := some 15) (v := ?_) (a' := ?_) (lb 10 255) rfl rfl (by kernel_rfl) (fun _ _ _ h => h) (Or.inl ⟨by rfl, ?_⟩) ?_ ?_
    rotate_left
    · intro w'
      go_simp
      with_reducible rfl
    rotate_left
    · simp only [Act.put, nrA, nrB, nrC, i64_w, i32_w]
      rfl
    refine pure_ (i := 8) (N := some 16) (v := ?_) (a' := ?_) (lb 10 511) rfl rfl (by kernel_rfl) (fun _ _ _ h => h) (Or.inl ⟨by rfl, ?_⟩) ?_ ?_
    rotate_left
    · intro w'
      go_simp
      with_reducible rfl
    rotate_left
    · simp only [Act.put, nrA, nrB, nrC, i64_w, i32_w]
      rfl
    refine last_ (i := 9) (N := none) (lb 10 1023) rfl rfl (by kernel_rfl) (by decide) (fun K hK => ?_)
    obtain ⟨cq0, cq1⟩ := cq
    refine skip_ (w1 := ?_) (by rfl) rfl ?_ ?_
    rotate_left
    · go_simp
      rfl
    refine hK.out _ _ ?_
    clear hK K
    refine done_ (by kernel_rfl) ?_
    clear hHeld
    go_wp2
    have e1 : wrap64 (L - wrap64 (1 + (t.keys.length : Int))) = L - ((1 + t.keys.length : Nat) : Int) := by
      rw [w64 (n := 1 + (t.keys.length : Int)) (by omega), w64 (by omega)]; omega
    have E1 := Lib.hid e1
    clear e1 cq0 cq1
    go_loopw [5] (fun i wr => ∃ (k : Nat) (L1 : Int), k ≤ t.keys.length ∧ i = .int .i64 k ∧ -1125899906842624 ≤ L1 ∧ L1 ≤ 1000000 ∧ Hid (
        wr.heap[pb]? = some (.cells #[.int .i64 L1] 3 (0, 0)) ∧ wr.heap[w.heap.size]? = some (.cells #[.int .i64 t.kind, .string t.name, .string t.text, .slice ak t.keys.length ck, .slice a1 t.kids.length c1, .slice a2 t.more.length c2] 25 (0, 0)) ∧ Kp (· = pb) w wr ∧
        SpI (1 + t.keys.length + ((t.keys.take k).map fun k => k.text.size).sum) (WI t) L L1)) (fun i _ => t.keys.length - (intOf i).toNat)
    case atStart =>
      have hs : SpI (1 + t.keys.length) (WI t) L (L - ((1 + t.keys.length : Nat) : Int)) := by
        have h0 : SpI 0 (WI t) L L := .inl ⟨hL0, by omega⟩
        have := h0.step hL0 (x := 1 + t.keys.length) (by omega) (by rw [WI_eq t]; omega)
        rwa [Nat.zero_add] at this
      have hb := hs.bd hL1
      rw [E1.out]
      refine ⟨0, _, Nat.zero_le _, rfl, hb.1, hb.2, ?_, ?_, ?_, ?_⟩
      · exact al_old (set_blk HP.out 0 _)
      · exact al_new (by simp)
      · exact (((Kp.refl (· = pb) w).setCell (p := ⟨pb, 0, none⟩) (.inl rfl) _).alloc _).drew
      · simpa using hs
    case round =>
      obtain ⟨k, L1, hk, rfl, hl1, hl2, hI⟩ := hrel
      obtain ⟨b0, b1, b2, b3, b4, b5⟩ := cells6 hI.out.2.1
      obtain ⟨q0, q1⟩ := cells1 hI.out.1
      by_cases hc : k < t.keys.length ∧ 0 ≤ L1
      · obtain ⟨hlt, h0⟩ := hc
        have hm1 := kp_mle HM.out HA.out hI.out.2.2.1
        obtain ⟨b, off, rfl, e0, e1⟩ := HK.out.at hlt
        replace e0 := hm1 _ _ e0
        replace e1 := hm1 _ _ e1
        have hsz := HB3.out _ (List.getElem_mem hlt)
        clear hm1
        go_wp2
        refine start_ (n := 13) (S := fun w' => w'.cell? ⟨pb, 0, none⟩ = some (.int .i64 L1) ∧ w'.cell? ⟨w.heap.size, 3, none⟩ = some (.slice (some ⟨b, off, none⟩) t.keys.length ck) ∧ w'.cell? ⟨b, off + k * 2 + 1, none⟩ = some (.string t.keys[k].text)) (ds := [12]) (lb 13 0) (by kernel_rfl) rfl rfl ⟨q0, b3, e1⟩ (fun hHeld => ?_)
        refine pure_ (i := 0) (N := some 30) (v := ?_) (a' := ?_) (lb 13 1) rfl rfl (by kernel_rfl) (fun _ _ _ h => h) (Or.inl ⟨by rfl, ?_⟩) ?_ ?_
        rotate_left
        · intro w'
          go_simp
          with_reducible rfl
        rotate_left
        · simp only [Act.put, nrA, nrB, nrC, i64_w, i32_w]
          rfl
        refine pure_ (i := 1) (N := some 31) (v := ?_) (a' := ?_) (lb 13 3) rfl rfl (by kernel_rfl) (fun _ _ _ h => h) (Or.inl ⟨by rfl, ?_⟩) ?_ ?_
        rotate_left
        · intro w'
          go_simp
          with_reducible rfl
        rotate_left
        · simp only [Act.put, nrA, nrB, nrC, i64_w, i32_w]
          rfl
        refine pure_ (i := 3) (N := some 33) (v := ?_) (a' := ?_) (lb 13 11) rfl rfl (by kernel_rfl) (fun _ _ _ h => h) (Or.inl ⟨by rfl, ?_⟩) ?_ ?_
        rotate_left
        · intro w'
          go_simp
          with_reducible rfl
        rotate_left
        · simp only [Act.put, nrA, nrB, nrC, i64_w, i32_w]
          rfl
        refine pure_ (i := 5) (N := some 35) (v := ?_) (a' := ?_) (lb 13 43) rfl rfl (by kernel_rfl) (fun _ _ _ h => h) (Or.inl ⟨by rfl, ?_⟩) ?_ ?_
        rotate_left
        · intro w'
          go_simp
          with_reducible rfl
        rotate_left
        · simp only [Act.put, nrA, nrB, nrC, i64_w, i32_w]
          rfl
        refine take_ (i := 2) (N := some 32) (v := ?_) (a' := ?_) (lb 13 47) rfl rfl (by kernel_rfl) (fun _ _ _ h => h) (Or.inl ⟨by rfl, ?_⟩) hHeld ?_ ?_
        rotate_left
        · rintro w' ⟨s0, s1, s2⟩
          go_simp
          with_reducible rfl
        rotate_left
        · simp only [Act.put, nrA, nrB, nrC, i64_w, i32_w]
          rfl
        refine take_ (i := 4) (N := some 34) (v := ?_) (a' := ?_) (lb 13 63) rfl rfl (by kernel_rfl) (fun _ _ _ h => h) (Or.inl ⟨by rfl, ?_⟩) hHeld ?_ ?_
        rotate_left
        · rintro w' ⟨s0, s1, s2⟩
          go_simp
          with_reducible rfl
        rotate_left
        · simp only [Act.put, nrA, nrB, nrC, i64_w, i32_w]
          rfl
        refine pure_ (i := 6) (N := some 36) (v := ?_) (a' := ?_) (lb 13 127) rfl rfl (by kernel_rfl) (fun _ _ _ h => h) (Or.inl ⟨by rfl, ?_⟩) ?_ ?_
        rotate_left
        · intro w'
          go_simp
          with_reducible rfl
        rotate_left
        · simp only [Act.put, nrA, nrB, nrC, i64_w, i32_w]
          rfl
        refine pure_ (i := 7) (N := some 37) (v := ?_) (a' := ?_) (lb 13 255) rfl rfl (by kernel_rfl) (fun _ _ _ h => h) (Or.inl ⟨by rfl, ?_⟩) ?_ ?_
        rotate_left
        · intro w'
          go_simp
          with_reducible rfl
        rotate_left
        · simp only [Act.put, nrA, nrB, nrC, i64_w, i32_w]
          rfl
        refine take_ (i := 8) (N := some 38) (v := ?_) (a' := ?_) (lb 13 511) rfl rfl (by kernel_rfl) (fun _ _ _ h => h) (Or.inl ⟨by rfl, ?_⟩) hHeld ?_ ?_
        rotate_left
        · rintro w' ⟨s0, s1, s2⟩
          go_simp
          with_reducible rfl
        rotate_left
        · simp only [Act.put, nrA, nrB, nrC, i64_w, i32_w]
          rfl
        refine pure_ (i := 9) (N := some 39) (v := ?_) (a' := ?_) (lb 13 1023) rfl rfl (by kernel_rfl) (fun _ _ _ h => h) (Or.inl ⟨by rfl, ?_⟩) ?_ ?_
        rotate_left
        · intro w'
          go_simp
          with_reducible rfl
        rotate_left
        · simp only [Act.put, nrA, nrB, nrC, i64_w, i32_w]
          rfl
        refine pure_ (i := 10) (N := some 40) (v := ?_) (a' := ?_) (lb 13 2047) rfl rfl (by kernel_rfl) (fun _ _ _ h => h) (Or.inl ⟨by rfl, ?_⟩) ?_ ?_
        rotate_left
        · intro w'
          go_simp
          with_reducible rfl
        rotate_left
        · simp only [Act.put, nrA, nrB, nrC, i64_w, i32_w]
          rfl
        refine pure_ (i := 11) (N := some 41) (v := ?_) (a' := ?_) (lb 13 4095) rfl rfl (by kernel_rfl) (fun _ _ _ h => h) (Or.inl ⟨by rfl, ?_⟩) ?_ ?_
        rotate_left
        · intro w'
          go_simp
          with_reducible rfl
        rotate_left
        · simp only [Act.put, nrA, nrB, nrC, i64_w, i32_w]
          rfl
        refine last_ (i := 12) (N := none) (lb 13 8191) rfl rfl (by kernel_rfl) (by decide) (fun K hK => ?_)
        refine skip_ (w1 := ?_) (by rfl) rfl ?_ ?_
        rotate_left
        · go_simp
          rfl
        refine hK.out _ _ ?_
        clear hK K
        refine done_ (by kernel_rfl) ?_
        clear hHeld
        go_wp2
        go_roundw
        case rel =>
          have e2 : wrap64 (L1 - (t.keys[k].text.size : Int)) = L1 - (t.keys[k].text.size : Int) := w64 (by omega)
          have hs := hI.out.2.2.2.step h0 (x := t.keys[k].text.size) (by omega) (by rw [WI_eq t]; have := sum_take_le (fun k : Ky => k.text.size) t.keys (k + 1); rw [sum_take_succ _ _ _ hlt] at this; omega)
          have hb := hs.bd hL1
          simp only [e2]
          refine ⟨k + 1, _, by omega, by go_num, hb.1, hb.2, set_blk hI.out.1 0 _, set_old hI.out.2.1 (show w.heap.size ≠ pb from by omega), (hI.out.2.2.1.drew.setCell (p := ⟨pb, 0, none⟩) (.inl rfl) _), ?_⟩
          rw [sum_take_succ _ _ _ hlt]
          simpa [Nat.add_assoc] using hs
        case measure => simp [intOf]; omega
      · have hJ : SpI (1 + t.keys.length + (t.keys.map fun k => k.text.size).sum) (WI t) L L1 := by
          by_cases h0 : 0 ≤ L1
          · have : k = t.keys.length := by omega
            have := hI.out.2.2.2
            rwa [‹k = t.keys.length›, List.take_length] at this
          · exact hI.out.2.2.2.neg (by omega)
        have HJ := Lib.hid hJ
        clear hJ
        have hcases : ¬ k < t.keys.length ∨ (k < t.keys.length ∧ L1 < 0) := by omega
        have HPX := Lib.hid hI.out.1
        have HBX := Lib.hid hI.out.2.1
        have HKP := Lib.hid hI.out.2.2.1
        clear hI hc
        rcases hcases with hc | ⟨hc, hc2⟩
        all_goals
          go_wp2
          obtain ⟨wo, rfl⟩ : ∃ wo : World, wo = wr := ⟨_, rfl⟩
          go_loopw [6] (fun i wr => ∃ (k : Nat) (L1 : Int), k ≤ t.kids.length ∧ i = .int .i64 k ∧ -1125899906842624 ≤ L1 ∧ L1 ≤ 1000000 ∧ Hid (
            wr.heap[pb]? = some (.cells #[.int .i64 L1] 3 (0, 0)) ∧ wr.heap[w.heap.size]? = some (.cells #[.int .i64 t.kind, .string t.name, .string t.text, .slice ak t.keys.length ck, .slice a1 t.kids.length c1, .slice a2 t.more.length c2] 25 (0, 0)) ∧ Kp (· = pb) w wr ∧
            SpI (1 + t.keys.length + (t.keys.map fun k => k.text.size).sum + ((t.kids.take k).map WI).sum) (WI t) L L1)) (fun i _ => t.kids.length - (intOf i).toNat)
          case atStart => exact ⟨0, L1, Nat.zero_le _, rfl, hl1, hl2, HPX.out, HBX.out, HKP.out, by simpa using HJ.out⟩
          case round =>
            clear HPX HBX HKP HJ hl1 hl2 b0 b1 b2 b3 b4 b5 q0 q1
            obtain ⟨k2, L2, hk2, rfl, hl1, hl2, hI⟩ := hrel
            obtain ⟨b0, b1, b2, b3, b4, b5⟩ := cells6 hI.out.2.1
            obtain ⟨q0, q1⟩ := cells1 hI.out.1
            by_cases hc3 : k2 < t.kids.length ∧ 0 ≤ L2
            · obtain ⟨hlt, h0⟩ := hc3
              have hm1 := kp_mle HM.out HA.out hI.out.2.2.1
              obtain ⟨b, off, kd, nm, tx, ak', nk, ck', a1', n1, c1', a2', n2, c2', rfl, e0, e1, e2, e3, e4, e5, hkv⟩ := H1.out.at hlt
              replace e0 := hm1 _ _ e0
              replace e1 := hm1 _ _ e1
              replace e2 := hm1 _ _ e2
              replace e3 := hm1 _ _ e3
              replace e4 := hm1 _ _ e4
              replace e5 := hm1 _ _ e5
              have HKV := Lib.hid hkv
              have HM1 := Lib.hid hm1
              have HSk := Lib.hid (show SizeOf.sizeOf t.kids[k2] < n from by have := IT.lt_kid' (t := t) (List.getElem_mem hlt); have := HN.out; omega)
              have HBk := Lib.hid (HB5.out _ (List.getElem_mem hlt))
              clear hkv hm1
              go_wp2_with (go_at_call 42; refine (IH.out _ m _ _ _ _ _ _ _ _ _ _ _ _ pb L2 _ HSk.out HBk.out HKV.out HM1.out HA.out h0 hl2 hI.out.1).mono ?_; rintro e w' ⟨L9, hs3, rfl, hk3, hp3⟩)
              go_roundw
              case rel =>
                have hs := hI.out.2.2.2.part h0 hs3 (by rw [WI_eq t]; have := sum_take_le WI t.kids (k2 + 1); rw [sum_take_succ _ _ _ hlt] at this; omega)
                have hb := hs.bd hL1
                refine ⟨k2 + 1, L9, by omega, by go_num, hb.1, hb.2, hp3, hk3.heap hI.out.2.1 (by omega), hI.out.2.2.1.trans hk3, ?_⟩
                rw [sum_take_succ _ _ _ hlt]
                simpa [Nat.add_assoc] using hs
              case measure => simp [intOf]; omega
            · have hJ : SpI (1 + t.keys.length + (t.keys.map fun k => k.text.size).sum + (t.kids.map WI).sum) (WI t) L L2 := by
                by_cases h0 : 0 ≤ L2
                · have : k2 = t.kids.length := by omega
                  have := hI.out.2.2.2
                  rwa [‹k2 = t.kids.length›, List.take_length] at this
                · exact hI.out.2.2.2.neg (by omega)
              have HJ := Lib.hid hJ
              clear hJ
              have hcases : ¬ k2 < t.kids.length ∨ (k2 < t.kids.length ∧ L2 < 0) := by omega
              have HPX := Lib.hid hI.out.1
              have HBX := Lib.hid hI.out.2.1
              have HKP := Lib.hid hI.out.2.2.1
              clear hI hc3
              rcases hcases with hc3 | ⟨hc3, hc4⟩
              all_goals
                go_wp2
                obtain ⟨wo, rfl⟩ : ∃ wo : World, wo = wr := ⟨_, rfl⟩
                go_loopw [7] (fun i wr => ∃ (k : Nat) (L1 : Int), k ≤ t.more.length ∧ i = .int .i64 k ∧ -1125899906842624 ≤ L1 ∧ L1 ≤ 1000000 ∧ Hid (
                  wr.heap[pb]? = some (.cells #[.int .i64 L1] 3 (0, 0)) ∧ wr.heap[w.heap.size]? = some (.cells #[.int .i64 t.kind, .string t.name, .string t.text, .slice ak t.keys.length ck, .slice a1 t.kids.length c1, .slice a2 t.more.length c2] 25 (0, 0)) ∧ Kp (· = pb) w wr ∧
                  SpI (1 + t.keys.length + (t.keys.map fun k => k.text.size).sum + (t.kids.map WI).sum + ((t.more.take k).map WI).sum) (WI t) L L1)) (fun i _ => t.more.length - (intOf i).toNat)
                case atStart => exact ⟨0, L2, Nat.zero_le _, rfl, hl1, hl2, HPX.out, HBX.out, HKP.out, by simpa using HJ.out⟩
                case round =>
                  clear HPX HBX HKP HJ hl1 hl2 b0 b1 b2 b3 b4 b5 q0 q1
                  obtain ⟨k3, L3, hk9, rfl, hl1, hl2, hI⟩ := hrel
                  obtain ⟨b0, b1, b2, b3, b4, b5⟩ := cells6 hI.out.2.1
                  obtain ⟨q0, q1⟩ := cells1 hI.out.1
                  by_cases hc3 : k3 < t.more.length ∧ 0 ≤ L3
                  · obtain ⟨hlt, h0⟩ := hc3
                    have hm1 := kp_mle HM.out HA.out hI.out.2.2.1
                    obtain ⟨b, off, kd, nm, tx, ak', nk, ck', a1', n1, c1', a2', n2, c2', rfl, e0, e1, e2, e3, e4, e5, hkv⟩ := H2.out.at hlt
                    replace e0 := hm1 _ _ e0
                    replace e1 := hm1 _ _ e1
                    replace e2 := hm1 _ _ e2
                    replace e3 := hm1 _ _ e3
                    replace e4 := hm1 _ _ e4
                    replace e5 := hm1 _ _ e5
                    have HKV := Lib.hid hkv
                    have HM1 := Lib.hid hm1
                    have HSk := Lib.hid (show SizeOf.sizeOf t.more[k3] < n from by have := IT.lt_more' (t := t) (List.getElem_mem hlt); have := HN.out; omega)
                    have HBk := Lib.hid (HB7.out _ (List.getElem_mem hlt))
                    clear hkv hm1
                    go_wp2_with (go_at_call 42; refine (IH.out _ m _ _ _ _ _ _ _ _ _ _ _ _ pb L3 _ HSk.out HBk.out HKV.out HM1.out HA.out h0 hl2 hI.out.1).mono ?_; rintro e w' ⟨L9, hs3, rfl, hk9, hp3⟩)
                    go_roundw
                    case rel =>
                      have hs := hI.out.2.2.2.part h0 hs3 (by rw [WI_eq t]; have := sum_take_le WI t.more (k3 + 1); rw [sum_take_succ _ _ _ hlt] at this; omega)
                      have hb := hs.bd hL1
                      refine ⟨k3 + 1, L9, by omega, by go_num, hb.1, hb.2, hp3, hk9.heap hI.out.2.1 (by omega), hI.out.2.2.1.trans hk9, ?_⟩
                      rw [sum_take_succ _ _ _ hlt]
                      simpa [Nat.add_assoc] using hs
                    case measure => simp [intOf]; omega
                  · have hJ : SpI (WI t) (WI t) L L3 := by
                      by_cases h0 : 0 ≤ L3
                      · have : k3 = t.more.length := by omega
                        have := hI.out.2.2.2
                        rwa [‹k3 = t.more.length›, List.take_length, ← WI_eq t] at this
                      · exact hI.out.2.2.2.neg (by omega)
                    have HJ := Lib.hid hJ
                    clear hJ
                    have hcases : ¬ k3 < t.more.length ∨ (k3 < t.more.length ∧ L3 < 0) := by omega
                    have HPX := Lib.hid hI.out.1
                    have HBX := Lib.hid hI.out.2.1
                    have HKP := Lib.hid hI.out.2.2.1
                    clear hI hc3
                    by_cases h0 : 0 ≤ L3
                    · rcases hcases with hc5 | ⟨hc5, hc6⟩
                      · go_wp2
                        go_ret
                        exact ⟨L3, HJ.out, by simp [h0], HKP.out, HPX.out⟩
                      · omega
                    · rcases hcases with hc5 | ⟨hc5, hc6⟩
                      all_goals
                        go_wp2
                        go_ret
                        exact ⟨L3, HJ.out, by simp [h0], HKP.out, HPX.out⟩
end Go.Proofs.YtaglgokeejjagaaGreat
namespace Go.Proofs.YtaglgokeejjagaaGreat
set_option linter.unusedVariables false
set_option linter.unusedSimpArgs false
open Go.RowKit Go.Sort Go.Proofs.YtaglgokeejjagaaGreatW.PrintLast

def CpV (t : Vl) (m : Mem) (w : World) (e : Ending) (w' : World) : Prop :=
  ∃ kd tx ak nk ck a1 n1 c1, e = .returned (.agg #[.int .i64 kd, .string tx, .slice ak nk ck, .slice a1 n1 c1]) ∧ MV (fr m w.heap.size w' none) (vlCells kd tx ak nk ck a1 n1 c1) t ∧ Below w.heap.size w w'

set_option maxHeartbeats 1000000 in
set_option maxRecDepth 100000 in
theorem copiedValue_any (n : Nat) : ∀ (t : Vl) (m : Mem) (kd : Int) (tx : ByteArray) (ak : Option Addr) (nk ck : Nat) (a1 : Option Addr) (n1 c1 : Nat) (w : World), SizeOf.sizeOf t < n → WV t ≤ 5000 → MV m (vlCells kd tx ak nk ck a1 n1 c1) t → MLe m w.cell? →
    Calls Tryz.prog 39 #[.agg #[.int .i64 kd, .string tx, .slice ak nk ck, .slice a1 n1 c1]] w (CpV t m w) := by
  induction n with
  | zero => intro t m kd tx ak nk ck a1 n1 c1 w h; exact absurd h (Nat.not_lt_zero _)
  | succ n ih =>
    intro t m kd tx ak nk ck a1 n1 c1 w hn hw hv hm
    have IH := Lib.hid ih
    clear ih
    obtain ⟨rfl, rfl, rfl, rfl, ⟨lk1, lk2⟩, ⟨l11, l12⟩, rk, r1⟩ := hv.open
    have HK := Lib.hid rk
    have H1 := Lib.hid r1
    have HM := Lib.hid hm
    have HW := Lib.hid hw
    have HN := Lib.hid hn
    have HLK := Lib.hid (And.intro lk1 lk2)
    clear rk r1 hm hw hn hv
    go_enter Tryz.func39, Tryz.ntmps39
    go_wp2
    go_loopw [5, 16] (fun _ i wr => ∃ (k : Nat) (v : Value), k ≤ t.kids.length ∧ i = .int .i64 k ∧ Hid (
        wr.heap[w.heap.size + 1]? = some (.cells #[.int .i64 0, .string ⟨#[]⟩, .slice none 0 0, .slice none 0 0] 36 (0, 0)) ∧
        wr.heap[w.heap.size + 1 + 1]? = some (.cells #[.int .i64 t.kind, .string t.text, .slice ak t.keys.length ck, v] 36 (0, 0)) ∧
        Own MV m 36 4 (w.heap.size + 3) wr v (t.kids.take k) ∧ Below w.heap.size w wr ∧ w.heap.size + 3 ≤ wr.heap.size)) (fun _ i _ => t.kids.length - (intOf i).toNat)
    case atStart =>
      refine ⟨0, .slice none 0 0, Nat.zero_le _, rfl, ?_, ?_, ?_, ?_, ?_⟩
      · exact al_old (al_new (by simp))
      · exact al_new (by simp)
      · exact Own.nil ..
      · repeat (first | exact Below.refl _ _ | refine Below.alloc ?_ (by simp; try omega) _)
      · simp
    case round =>
      obtain ⟨k, v, hk, rfl, hI⟩ := hrel
      by_cases hlt : k < t.kids.length
      · have hm1 := HM.out.trans (mle_below hI.out.2.2.2.1)
        obtain ⟨b, off, kd, tx, ak', nk, ck', a1', n1, c1', rfl, e0, e1, e2, e3, hkv⟩ := H1.out.at hlt
        replace e0 := hm1 _ _ e0
        replace e1 := hm1 _ _ e1
        replace e2 := hm1 _ _ e2
        replace e3 := hm1 _ _ e3
        have hbo : w.heap.size + 1 + 1 < wr.heap.size := by have := hI.out.2.2.2.2; omega
        have HKV := Lib.hid hkv
        have HM1 := Lib.hid hm1
        have HSk := Lib.hid (show SizeOf.sizeOf t.kids[k] < n from by have := Vl.lt_kid' (t := t) (List.getElem_mem hlt); have := HN.out; omega)
        have HWk := Lib.hid (show WV t.kids[k] ≤ 5000 from Nat.le_trans (WV_kid (List.getElem_mem hlt)) HW.out)
        have HLEN := Lib.hid (show t.kids.length ≤ 5000 from Nat.le_trans (WV_kids t) HW.out)
        have HV := Lib.hid (fun k' (e : v.ownBlock = some k') => (hI.out.2.2.1.lt k' e).2)
        clear hkv hm1
        go_wp2
        have HC := Lib.hid (show (wr.alloc (.cells #[.int .i64 kd, .string tx, .slice ak' nk ck', .slice a1' n1 c1'] 29)).heap[wr.heap.size]? = _ from al_new rfl)
        have HB := Lib.hid (show (wr.alloc (.cells #[.int .i64 kd, .string tx, .slice ak' nk ck', .slice a1' n1 c1'] 29)).heap[w.heap.size + 1 + 1]? = _ from al_old hI.out.2.1)
        refine start_ (n := 8) (S := fun w' => w'.cell? ⟨w.heap.size + 1 + 1, 3, none⟩ = some v ∧ w'.cell? ⟨wr.heap.size, 0, none⟩ = some (.int .i64 kd) ∧ w'.cell? ⟨wr.heap.size, 1, none⟩ = some (.string tx) ∧ w'.cell? ⟨wr.heap.size, 2, none⟩ = some (.slice ak' nk ck') ∧ w'.cell? ⟨wr.heap.size, 3, none⟩ = some (.slice a1' n1 c1')) (ds := [7]) (lb 8 0) (by kernel_rfl) rfl rfl ⟨cell_blk HB.out 3 rfl, cell_blk HC.out 0 rfl, cell_blk HC.out 1 rfl, cell_blk HC.out 2 rfl, cell_blk HC.out 3 rfl⟩ (fun hHeld => ?_)
        refine pure_ (i := 0) (N := some 20) (v := ?_) (a' := ?_) (lb 8 1) rfl rfl (by kernel_rfl) (fun _ _ _ h => h) (Or.inl ⟨by rfl, ?_⟩) ?_ ?_
        rotate_left
        · intro w'
          go_simp
          with_reducible rfl
        rotate_left
        · simp only [Act.put, nrA, nrB, nrC, i64_w, i32_w]
          rfl
        refine take_ (i := 1) (N := some 21) (v := ?_) (a' := ?_) (lb 8 3) rfl rfl (by kernel_rfl) (fun _ _ _ h => h) (Or.inl ⟨by rfl, ?_⟩) hHeld ?_ ?_
        rotate_left
        · rintro w' ⟨s0, s1, s2, s3, s4⟩
          go_simp
          with_reducible rfl
        rotate_left
        · simp only [Act.put, nrA, nrB, nrC, i64_w, i32_w]
          rfl
        refine take_ (i := 2) (N := some 22) (v := ?_) (a' := ?_) (lb 8 7) rfl rfl (by kernel_rfl) (fun _ _ _ h => h) (Or.inl ⟨by rfl, ?_⟩) hHeld ?_ ?_
        rotate_left
        · rintro w' ⟨s0, s1, s2, s3, s4⟩
          go_simp
          with_reducible rfl
        rotate_left
        · simp only [Act.put, nrA, nrB, nrC, i64_w, i32_w]
          rfl
        refine one_ (i := 3) (N := some 23) (lb 8 15) rfl rfl (by kernel_rfl) (by decide) (fun K hK => ?_)
        refine goes_ Tryz.func39 (by kernel_rfl) rfl #[.agg #[.int .i64 kd, .string tx, .slice ak' nk ck', .slice a1' n1 c1']] (by rfl) rfl rfl (by simp only [List.map_toArray, List.map_cons, List.map_nil]; rfl) ?_
        with_reducible refine (IH.out _ m _ _ _ _ _ _ _ _ _ HSk.out HWk.out HKV.out (mle_drew (mle_alloc HM1.out _))).mono ?_
        rintro e w1 ⟨kd', tx', ak'', nk', ck'', a1'', n1', c1'', rfl, hmv, hbl⟩
        refine ⟨_, rfl, ?_⟩
        refine hK.out _ _ ⟨cell_blk (bl_heap hbl HB.out) 3 rfl, cell_blk (bl_heap hbl HC.out) 0 rfl, cell_blk (bl_heap hbl HC.out) 1 rfl, cell_blk (bl_heap hbl HC.out) 2 rfl, cell_blk (bl_heap hbl HC.out) 3 rfl⟩ (fun hHeld => ?_)
        clear hK K
        refine norm_ (a' := ?_) ?_ ?_
        rotate_left
        · show Act.put _ (some 23) _ = _
          simp only [Act.put, nrA, nrB, nrC, i64_w, i32_w]
          rfl
        refine one_ (i := 4) (N := some 24) (lb 8 31) rfl rfl (by kernel_rfl) (by decide) (fun K hK => ?_)
        refine value_ (w1 := ?_) (v := ?_) (by rfl) rfl ?_ ?_
        rotate_left 2
        · go_simp
          constructor
          · rfl
          · rfl
        refine hK.out _ _ ⟨cell_blk (al_old (bl_heap hbl HB.out)) 3 rfl, cell_blk (al_old (bl_heap hbl HC.out)) 0 rfl, cell_blk (al_old (bl_heap hbl HC.out)) 1 rfl, cell_blk (al_old (bl_heap hbl HC.out)) 2 rfl, cell_blk (al_old (bl_heap hbl HC.out)) 3 rfl⟩ (fun hHeld => ?_)
        clear hK K
        refine norm_ (a' := ?_) ?_ ?_
        rotate_left
        · show Act.put _ (some 24) _ = _
          simp only [Act.put, nrA, nrB, nrC, i64_w, i32_w]
          rfl
        refine one_ (i := 5) (N := some 25) (lb 8 63) rfl rfl (by kernel_rfl) (by decide) (fun K hK => ?_)
        refine step_snoc em_V rfl _ _ _ rfl rfl _ _ rfl (y := t.kids[k]) (l := t.kids.take k) (B := w.heap.size + 3) (m := m)  ⟨(((hI.out.2.2.1.alloc em_V _).drew em_V).bl em_V hbl).alloc em_V _, (lo_of_mle HM.out).mono (by omega), cells_new _ _ _, rfl, by simp [Value.oneCell'], ⟨_, em_V _ _ _ _ (fr_alloc _) hmv, by simp; omega, fun k' e => by have := HV.out k' e; simp; omega⟩, ⟨72, sl34, by have := HLEN.out; simp; omega⟩, by have := HLEN.out; simp [maxLen]; omega, by have := hbl.size; simp at this ⊢; omega⟩ ?_
        intro g' cap w2 hown2 hg2 hv2 hgg
        have HB2 := grown_heap hg2 (al_old (bl_heap hbl HB.out)) (fun k' e => by have := hv2 k' e; omega)
        have HC2 := grown_heap hg2 (al_old (bl_heap hbl HC.out)) (fun k' e => by have := HV.out k' e; omega)
        refine hK.out _ _ ⟨cell_blk HB2 3 rfl, cell_blk HC2 0 rfl, cell_blk HC2 1 rfl, cell_blk HC2 2 rfl, cell_blk HC2 3 rfl⟩ (fun hHeld => ?_)
        clear hK K
        refine norm_ (a' := ?_) ?_ ?_
        rotate_left
        · show Act.put _ (some 25) _ = _
          simp only [Act.put, nrA, nrB, nrC, i64_w, i32_w]
          rfl
        refine pure_ (i := 6) (N := some 26) (v := ?_) (a' := ?_) (lb 8 127) rfl rfl (by kernel_rfl) (fun _ _ _ h => h) (Or.inl ⟨by rfl, ?_⟩) ?_ ?_
        rotate_left
        · intro w'
          go_simp
          with_reducible rfl
        rotate_left
        · simp only [Act.put, nrA, nrB, nrC, i64_w, i32_w]
          rfl
        refine last_ (i := 7) (N := none) (lb 8 255) rfl rfl (by kernel_rfl) (by decide) (fun K hK => ?_)
        have c3 := cell_blk HB2 3 rfl
        have f3 := froz_blk HB2 3
        refine skip_ (w1 := ?_) (by rfl) rfl ?_ ?_
        rotate_left
        · go_simp
          rfl
        refine hK.out _ _ ?_
        clear hK K
        refine done_ (by kernel_rfl) ?_
        clear c3 f3 HC2
        have HS2 := lt_blk HB2
        go_wp2
        go_roundw
        case rel =>
          have el : (t.kids.take k).length = k := by simp; omega
          rw [el, ← List.take_succ_eq_append_getElem hlt] at hown2
          refine ⟨k + 1, _, by omega, by go_num, ?_, set_blk HB2 3 _, hown2.setLow em_V (show w.heap.size + 1 + 1 < w.heap.size + 3 from by omega) _, ?_, ?_⟩
          · exact set_old (grown_heap hg2 (al_old (bl_heap hbl (al_old hI.out.1))) (fun k' e => by have := hv2 k' e; omega)) (show w.heap.size + 1 ≠ w.heap.size + 1 + 1 from by omega)
          · exact (bl_grown (bl_alloc (bl_trans (bl_alloc hI.out.2.2.2.1 _).drew hbl) _) hg2 (fun k' e => by have := hv2 k' e; omega)).setCell (show w.heap.size ≤ w.heap.size + 1 + 1 from by omega) _
          · have h1 := hg2.size; have h2 := hbl.size; have h3 := hI.out.2.2.2.2; simp at h1 h2 ⊢; omega
        case measure => simp [intOf]; omega
      · obtain rfl : k = t.kids.length := by omega
        obtain ⟨hh1, hh2, hown, hb, hsz⟩ := hI.out
        rw [List.take_length] at hown
        obtain ⟨a, c, rfl, lok, row⟩ := hown.rowV
        have r0 := cell_blk hh1 0 rfl
        have r1 := cell_blk hh1 1 rfl
        have r2 := cell_blk hh1 2 rfl
        have r3 := cell_blk hh1 3 rfl
        have fr' := froz_blk hh1
        have o0 := cell_blk hh2 0 rfl
        have o1 := cell_blk hh2 1 rfl
        have o2 := cell_blk hh2 2 rfl
        have o3 := cell_blk hh2 3 rfl
        have ROW := Lib.hid row
        have HBE := Lib.hid hb
        have HH1 := Lib.hid hh1
        have LOK := Lib.hid lok
        clear hh1 hh2 hown hb row lok hI
        go_wp2
        refine bodyPost_ret (v := .agg #[.int .i64 t.kind, .string t.text, .slice ak t.keys.length ck, .slice a t.kids.length c]) (by simp [results, Tryz.results39, go_sem, r0, r1, r2, r3]) rfl ⟨_, _, _, _, _, _, _, _, rfl, ?_, ?_⟩
        · refine MV.close' HLK.out LOK.out (HK.out.mono (fr_old (lo_of_mle HM.out))) (ROW.out.mono (fr_lower (lo_of_mle HM.out) (by omega) fun k h1 h2 => ?_))
          repeat rw [Below.heap_setCell _ _ _ k (show k ≠ w.heap.size + 1 from by omega)]
        · have hle : w.heap.size ≤ w.heap.size + 1 := by omega
          exact (((HBE.out.setCell hle _).setCell hle _).setCell hle _).setCell hle _
end Go.Proofs.YtaglgokeejjagaaGreat
namespace Go.Proofs.YtaglgokeejjagaaGreat
set_option linter.unusedVariables false
set_option linter.unusedSimpArgs false
open Go.RowKit Go.Sort Go.Proofs.YtaglgokeejjagaaGreatW.PrintLast

def CpT (t : ST) (m : Mem) (w : World) (e : Ending) (w' : World) : Prop :=
  ∃ kd ak nk ck a1 n1 c1 a2 n2 c2, e = .returned (.agg #[.int .i64 kd, .slice ak nk ck, .slice a1 n1 c1, .slice a2 n2 c2]) ∧ MST (fr m w.heap.size w' none) (stCells kd ak nk ck a1 n1 c1 a2 n2 c2) t ∧ Below w.heap.size w w'

theorem toS_kind (t : IT) : (toS t).kind = t.kind := by cases t; rw [toS]; rfl
theorem toS_keys (t : IT) : (toS t).keys = t.keys := by cases t; rw [toS]; rfl
theorem toS_kids (t : IT) : (toS t).kids = t.kids.map toS := by cases t; rw [toS]; rfl
theorem toS_more (t : IT) : (toS t).more = t.more.map toS := by cases t; rw [toS]; rfl

set_option maxHeartbeats 4000000 in
set_option maxRecDepth 100000 in
theorem copied_any (n : Nat) : ∀ (t : IT) (m : Mem) (kd : Int) (nm tx : ByteArray) (ak : Option Addr) (nk ck : Nat) (a1 : Option Addr) (n1 c1 : Nat) (a2 : Option Addr) (n2 c2 : Nat) (w : World), SizeOf.sizeOf t < n → WI t ≤ 1000000 → MIT m (itCells kd nm tx ak nk ck a1 n1 c1 a2 n2 c2) t → MLe m w.cell? →
    Calls Tryz.prog 43 #[.agg #[.int .i64 kd, .string nm, .string tx, .slice ak nk ck, .slice a1 n1 c1, .slice a2 n2 c2]] w (CpT (toS t) m w) := by
  induction n with
  | zero => intro t m kd nm tx ak nk ck a1 n1 c1 a2 n2 c2 w h; exact absurd h (Nat.not_lt_zero _)
  | succ n ih =>
    intro t m kd nm tx ak nk ck a1 n1 c1 a2 n2 c2 w hn hw hv hm
    have IH := Lib.hid ih
    clear ih
    obtain ⟨rfl, rfl, rfl, rfl, rfl, rfl, ⟨lk1, lk2⟩, ⟨l11, l12⟩, ⟨l21, l22⟩, rk, r1, r2⟩ := hv.open
    have HK := Lib.hid rk
    have H1 := Lib.hid r1
    have H2 := Lib.hid r2
    have HM := Lib.hid hm
    have HW := Lib.hid hw
    have HN := Lib.hid hn
    have HLN := Lib.hid (show t.keys.length ≤ 1000000 ∧ t.kids.length ≤ 1000000 ∧ t.more.length ≤ 1000000 from ⟨Nat.le_trans (WI_lens t).1 hw, Nat.le_trans (WI_lens t).2.1 hw, Nat.le_trans (WI_lens t).2.2 hw⟩)
    have HLO := Lib.hid (lo_of_mle hm)
    clear rk r1 r2 hm hn hv hw
    go_enter Tryz.func43, Tryz.ntmps43
    go_wp2
    go_loopw [5, 16] (fun _ i wr => ∃ (k : Nat) (v : Value), k ≤ t.keys.length ∧ i = .int .i64 k ∧ Hid (
        wr.heap[w.heap.size]? = some (.cells #[.int .i64 t.kind, .string t.name, .string t.text, .slice ak t.keys.length ck, .slice a1 t.kids.length c1, .slice a2 t.more.length c2] 25 (0, 0)) ∧ wr.heap[w.heap.size + 1]? = some (.cells #[.int .i64 0, .slice none 0 0, .slice none 0 0, .slice none 0 0] 42 (0, 0)) ∧
        wr.heap[w.heap.size + 1 + 1]? = some (.cells #[.int .i64 t.kind, v, .slice none 0 0, .slice none 0 0] 42 (0, 0)) ∧
        Own EKy m 85 2 (w.heap.size + 3) wr v (t.keys.take k) ∧ Below w.heap.size w wr ∧ w.heap.size + 3 ≤ wr.heap.size)) (fun _ i _ => t.keys.length - (intOf i).toNat)
    case atStart =>
      refine ⟨0, .slice none 0 0, Nat.zero_le _, rfl, ?_, ?_, ?_, ?_, ?_, ?_⟩
      · exact al_old (al_old (al_new rfl))
      · exact al_old (al_new (by simp))
      · exact al_new (by simp)
      · exact Own.nil ..
      · exact bl_alloc (bl_alloc (bl_alloc (Below.refl _ _) _) _) _
      · simp
    case round =>
      obtain ⟨k, v, hk, rfl, hI⟩ := hrel
      by_cases hlt : k < t.keys.length
      · have hm1 := HM.out.trans (mle_below hI.out.2.2.2.2.1)
        obtain ⟨b, off, rfl, e0, e1⟩ := HK.out.at hlt
        replace e0 := hm1 _ _ e0
        replace e1 := hm1 _ _ e1
        have hbo : w.heap.size + 1 + 1 < wr.heap.size := by have := hI.out.2.2.2.2.2; omega
        have c1' := cell_blk hI.out.2.2.1 1 rfl
        have f1' := froz_blk hI.out.2.2.1 1
        clear hm1
        go_wp2_with (at_builtin; (refine wpList_snoc em_Ky rfl _ _ _ rfl rfl _ _ rfl (Snoc.flat em_Ky hI.out.2.2.2.1 (HLO.out.mono (by omega)) (bl_alloc (Below.refl _ _) _) (fun _ => eky _ t.keys[k]) sl39 rfl (by simp [Value.oneCell']) (by have := HLN.out; simp; omega) (by have := HLN.out; simp [maxLen]; omega) (by omega)) ?_); intro g' cap w2 hown2 hg2 hv2 hgg; have hO2 := grown_heap hg2 (al_old (al_old hI.out.2.2.1)) (fun k' e => by have := hv2 k' e; omega); have c1'' := cell_blk hO2 1 rfl; have f1'' := froz_blk hO2 1)
        clear c1' f1' c1'' f1''
        go_roundw
        case rel =>
          have el : (t.keys.take k).length = k := by simp; omega
          rw [el, ← List.take_succ_eq_append_getElem hlt] at hown2
          refine ⟨k + 1, _, by omega, by go_num, ?_, ?_, set_blk hO2 1 _, hown2.setLow em_Ky (show w.heap.size + 1 + 1 < w.heap.size + 3 from by omega) _, ?_, ?_⟩
          · exact set_old (grown_heap hg2 (al_old (al_old hI.out.1)) (fun k' e => by have := hv2 k' e; omega)) (show w.heap.size ≠ w.heap.size + 1 + 1 from by omega)
          · exact set_old (grown_heap hg2 (al_old (al_old hI.out.2.1)) (fun k' e => by have := hv2 k' e; omega)) (show w.heap.size + 1 ≠ w.heap.size + 1 + 1 from by omega)
          · exact (bl_grown (bl_alloc (bl_alloc hI.out.2.2.2.2.1 _) _) hg2 (fun k' e => by have := hv2 k' e; omega)).setCell (show w.heap.size ≤ w.heap.size + 1 + 1 from by omega) _
          · have h1 := hg2.size; have h3 := hI.out.2.2.2.2.2; simp at h1 ⊢; omega
        case measure => simp [intOf]; omega
      · obtain rfl : k = t.keys.length := by omega
        obtain ⟨hX, hR, hO, hownk, hbel, hsz⟩ := hI.out
        rw [List.take_length] at hownk
        obtain ⟨x0, x1, x2, x3, x4, x5⟩ := cells6 hX
        obtain ⟨wl, rfl⟩ : ∃ wl : World, wl = wr := ⟨_, rfl⟩
        have HX := Lib.hid hX
        have HR := Lib.hid hR
        have HO := Lib.hid hO
        have HOK := Lib.hid hownk
        have HBL := Lib.hid hbel
        have HSZ := Lib.hid hsz
        obtain ⟨vk, rfl⟩ : ∃ vk : Value, vk = v := ⟨_, rfl⟩
        clear hI hX hR hO hownk hbel hsz
        go_wp2
        go_loopw [7, 34] (fun _ i wr => ∃ (k : Nat) (v : Value), k ≤ t.kids.length ∧ i = .int .i64 k ∧ Hid (
            wr.heap[w.heap.size + 1 + 1]? = some (.cells #[.int .i64 t.kind, vk, v, .slice none 0 0] 42 (0, 0)) ∧
            Own MST m 42 4 wl.heap.size wr v ((t.kids.take k).map toS) ∧ Kp (· = w.heap.size + 1 + 1) wl wr)) (fun _ i _ => t.kids.length - (intOf i).toNat)
        case atStart => exact ⟨0, .slice none 0 0, Nat.zero_le _, rfl, HO.out, Own.nil .., Kp.refl _ _⟩
        case round =>
          obtain ⟨k, v, hk, rfl, hI⟩ := hrel
          have hSW := hI.out.2.2.size
          by_cases hlt : k < t.kids.length
          · have hm1 := hI.out.2.2.mle_lo (HM.out.trans (mle_below HBL.out)) HLO.out (fun i hi => by omega)
            obtain ⟨b, off, kd, nm, tx, ak', nk, ck', a1', n1, c1', a2', n2, c2', rfl, e0, e1, e2, e3, e4, e5, hkv⟩ := H1.out.at hlt
            replace e0 := hm1 _ _ e0
            replace e1 := hm1 _ _ e1
            replace e2 := hm1 _ _ e2
            replace e3 := hm1 _ _ e3
            replace e4 := hm1 _ _ e4
            replace e5 := hm1 _ _ e5
            have HKV := Lib.hid hkv
            have HM1 := Lib.hid hm1
            have HSk := Lib.hid (show SizeOf.sizeOf t.kids[k] < n from by have := IT.lt_kid' (t := t) (List.getElem_mem hlt); have := HN.out; omega)
            have HWk := Lib.hid (show WI t.kids[k] ≤ 1000000 from Nat.le_trans (WI_kid (List.getElem_mem hlt)) HW.out)
            have HV := Lib.hid (fun k' (e : v.ownBlock = some k') => hI.out.2.1.lt k' e)
            clear hkv hm1
            go_wp2
            have HC := Lib.hid (show (wr.alloc (.cells #[.int .i64 kd, .string nm, .string tx, .slice ak' nk ck', .slice a1' n1 c1', .slice a2' n2 c2'] 25)).heap[wr.heap.size]? = _ from al_new rfl)
            have HB := Lib.hid (show (wr.alloc (.cells #[.int .i64 kd, .string nm, .string tx, .slice ak' nk ck', .slice a1' n1 c1', .slice a2' n2 c2'] 25)).heap[w.heap.size + 1 + 1]? = _ from al_old hI.out.1)
            refine start_ (n := 8) (S := fun w' => w'.cell? ⟨w.heap.size + 1 + 1, 2, none⟩ = some v ∧ w'.cell? ⟨wr.heap.size, 0, none⟩ = some (.int .i64 kd) ∧ w'.cell? ⟨wr.heap.size, 1, none⟩ = some (.string nm) ∧ w'.cell? ⟨wr.heap.size, 2, none⟩ = some (.string tx) ∧ w'.cell? ⟨wr.heap.size, 3, none⟩ = some (.slice ak' nk ck') ∧ w'.cell? ⟨wr.heap.size, 4, none⟩ = some (.slice a1' n1 c1') ∧ w'.cell? ⟨wr.heap.size, 5, none⟩ = some (.slice a2' n2 c2')) (ds := [7]) (lb 8 0) (by kernel_rfl) rfl rfl ⟨cell_blk HB.out 2 rfl, cell_blk HC.out 0 rfl, cell_blk HC.out 1 rfl, cell_blk HC.out 2 rfl, cell_blk HC.out 3 rfl, cell_blk HC.out 4 rfl, cell_blk HC.out 5 rfl⟩ (fun hHeld => ?_)
            refine pure_ (i := 0) (N := some 38) (v := ?_) (a' := ?_) (lb 8 1) rfl rfl (by kernel_rfl) (fun _ _ _ h => h) (Or.inl ⟨by rfl, ?_⟩) ?_ ?_
            rotate_left
            · intro w'
              go_simp
              with_reducible rfl
            rotate_left
            · simp only [Act.put, nrA, nrB, nrC, i64_w, i32_w]
              rfl
            refine take_ (i := 1) (N := some 39) (v := ?_) (a' := ?_) (lb 8 3) rfl rfl (by kernel_rfl) (fun _ _ _ h => h) (Or.inl ⟨by rfl, ?_⟩) hHeld ?_ ?_
            rotate_left
            · rintro w' ⟨s0, s1, s2, s3, s4, s5, s6⟩
              go_simp
              with_reducible rfl
            rotate_left
            · simp only [Act.put, nrA, nrB, nrC, i64_w, i32_w]
              rfl
            refine take_ (i := 2) (N := some 40) (v := ?_) (a' := ?_) (lb 8 7) rfl rfl (by kernel_rfl) (fun _ _ _ h => h) (Or.inl ⟨by rfl, ?_⟩) hHeld ?_ ?_
            rotate_left
            · rintro w' ⟨s0, s1, s2, s3, s4, s5, s6⟩
              go_simp
              with_reducible rfl
            rotate_left
            · simp only [Act.put, nrA, nrB, nrC, i64_w, i32_w]
              rfl
            refine one_ (i := 3) (N := some 41) (lb 8 15) rfl rfl (by kernel_rfl) (by decide) (fun K hK => ?_)
            refine goes_ Tryz.func43 (by kernel_rfl) rfl #[.agg #[.int .i64 kd, .string nm, .string tx, .slice ak' nk ck', .slice a1' n1 c1', .slice a2' n2 c2']] (by rfl) rfl rfl (by simp only [List.map_toArray, List.map_cons, List.map_nil]; rfl) ?_
            with_reducible refine (IH.out _ m _ _ _ _ _ _ _ _ _ _ _ _ _ HSk.out HWk.out HKV.out (mle_drew (mle_alloc HM1.out _))).mono ?_
            rintro e w1 ⟨kd', ak'', nk', ck'', a1'', n1', c1'', a2'', n2', c2'', rfl, hmv, hbl⟩
            refine ⟨_, rfl, ?_⟩
            have hB1 := bl_heap hbl HB.out
            have hC1 := bl_heap hbl HC.out
            refine hK.out _ _ ⟨cell_blk hB1 2 rfl, cell_blk hC1 0 rfl, cell_blk hC1 1 rfl, cell_blk hC1 2 rfl, cell_blk hC1 3 rfl, cell_blk hC1 4 rfl, cell_blk hC1 5 rfl⟩ (fun hHeld => ?_)
            clear hK K
            refine norm_ (a' := ?_) ?_ ?_
            rotate_left
            · show Act.put _ (some 41) _ = _
              simp only [Act.put, nrA, nrB, nrC, i64_w, i32_w]
              rfl
            refine one_ (i := 4) (N := some 42) (lb 8 31) rfl rfl (by kernel_rfl) (by decide) (fun K hK => ?_)
            refine value_ (w1 := ?_) (v := ?_) (by rfl) rfl ?_ ?_
            rotate_left 2
            · go_simp
              constructor
              · rfl
              · rfl
            refine hK.out _ _ ⟨cell_blk (al_old hB1) 2 rfl, cell_blk (al_old hC1) 0 rfl, cell_blk (al_old hC1) 1 rfl, cell_blk (al_old hC1) 2 rfl, cell_blk (al_old hC1) 3 rfl, cell_blk (al_old hC1) 4 rfl, cell_blk (al_old hC1) 5 rfl⟩ (fun hHeld => ?_)
            clear hK K
            refine norm_ (a' := ?_) ?_ ?_
            rotate_left
            · show Act.put _ (some 42) _ = _
              simp only [Act.put, nrA, nrB, nrC, i64_w, i32_w]
              rfl
            refine one_ (i := 5) (N := some 43) (lb 8 63) rfl rfl (by kernel_rfl) (by decide) (fun K hK => ?_)
            refine step_snoc em_ST rfl _ _ _ rfl rfl _ _ rfl (Snoc.call em_ST hI.out.2.1 (HLO.out.mono (by have := HSZ.out; omega)) (bl_alloc (Below.refl _ _) _).drew hbl hmv sl40 rfl (by simp [Value.oneCell']) (by have := HLN.out; simp; omega) (by have := HLN.out; simp [maxLen]; omega) hI.out.2.2.size) ?_
            intro g' cap w2 hown2 hg2 hv2 hgg
            have hB2 := grown_heap hg2 (al_old hB1) (fun k' e => by have := hv2 k' e; have := HSZ.out; omega)
            have hC2 := grown_heap hg2 (al_old hC1) (fun k' e => by have := (HV.out k' e).2; omega)
            refine hK.out _ _ ⟨cell_blk hB2 2 rfl, cell_blk hC2 0 rfl, cell_blk hC2 1 rfl, cell_blk hC2 2 rfl, cell_blk hC2 3 rfl, cell_blk hC2 4 rfl, cell_blk hC2 5 rfl⟩ (fun hHeld => ?_)
            clear hK K
            refine norm_ (a' := ?_) ?_ ?_
            rotate_left
            · show Act.put _ (some 43) _ = _
              simp only [Act.put, nrA, nrB, nrC, i64_w, i32_w]
              rfl
            refine pure_ (i := 6) (N := some 44) (v := ?_) (a' := ?_) (lb 8 127) rfl rfl (by kernel_rfl) (fun _ _ _ h => h) (Or.inl ⟨by rfl, ?_⟩) ?_ ?_
            rotate_left
            · intro w'
              go_simp
              with_reducible rfl
            rotate_left
            · simp only [Act.put, nrA, nrB, nrC, i64_w, i32_w]
              rfl
            refine last_ (i := 7) (N := none) (lb 8 255) rfl rfl (by kernel_rfl) (by decide) (fun K hK => ?_)
            have c3 := cell_blk hB2 2 rfl
            have f3 := froz_blk hB2 2
            refine skip_ (w1 := ?_) (by rfl) rfl ?_ ?_
            rotate_left
            · go_simp
              rfl
            refine hK.out _ _ ?_
            clear hK K
            refine done_ (by kernel_rfl) ?_
            clear c3 f3 hC2
            go_wp2
            go_roundw
            case rel =>
              have el : ((t.kids.take k).map toS).length = k := by simp; omega
              have ek : (t.kids.take (k + 1)).map toS = (t.kids.take k).map toS ++ [toS t.kids[k]] := by rw [List.take_succ_eq_append_getElem hlt, List.map_append, List.map_cons, List.map_nil]
              rw [el, ← ek] at hown2
              have hS := HSZ.out
              refine ⟨k + 1, _, by omega, by go_num, set_blk hB2 2 _, hown2.setLow em_ST (show w.heap.size + 1 + 1 < wl.heap.size from by omega) _, ?_⟩
              exact ((((hI.out.2.2.alloc _).drew.then hbl).alloc _).grown hg2 (fun k' e => .inr (hv2 k' e))).setCell (p := ⟨w.heap.size + 1 + 1, 2, none⟩) (.inl rfl) _
            case measure => simp [intOf]; omega
          · obtain rfl : k = t.kids.length := by omega
            obtain ⟨hO, hown, hkp⟩ := hI.out
            rw [List.take_length] at hown
            have HK1 := Lib.hid hkp
            have HO1 := Lib.hid hO
            have HOW1 := Lib.hid hown
            obtain ⟨x0', x1', x2', x3', x4', x5'⟩ := cells6 (hkp.heap HX.out (by omega))
            obtain ⟨wm, rfl⟩ : ∃ wm : World, wm = wr := ⟨_, rfl⟩
            have HBM := Lib.hid (below_kp HBL.out hkp (fun i hi => by omega))
            have HSM := Lib.hid (show w.heap.size + 3 ≤ wm.heap.size from Nat.le_trans HSZ.out hkp.size)
            obtain ⟨v1, rfl⟩ : ∃ v1 : Value, v1 = v := ⟨_, rfl⟩
            clear hI hO hown hkp x0 x1 x2 x3 x4 x5 hlt hk
            go_wp2
            go_loopw [9, 49] (fun _ i wr => ∃ (k : Nat) (v : Value), k ≤ t.more.length ∧ i = .int .i64 k ∧ Hid (
                wr.heap[w.heap.size + 1 + 1]? = some (.cells #[.int .i64 t.kind, vk, v1, v] 42 (0, 0)) ∧
                Own MST m 42 4 wm.heap.size wr v ((t.more.take k).map toS) ∧ Kp (· = w.heap.size + 1 + 1) wm wr)) (fun _ i _ => t.more.length - (intOf i).toNat)
            case atStart => exact ⟨0, .slice none 0 0, Nat.zero_le _, rfl, HO1.out, Own.nil .., Kp.refl _ _⟩
            case round =>
              obtain ⟨k, v, hk, rfl, hI⟩ := hrel
              have hSW := hI.out.2.2.size
              by_cases hlt : k < t.more.length
              · have hm1 := hI.out.2.2.mle_lo (HM.out.trans (mle_below HBM.out)) HLO.out (fun i hi => by omega)
                obtain ⟨b, off, kd, nm, tx, ak', nk, ck', a1', n1, c1', a2', n2, c2', rfl, e0, e1, e2, e3, e4, e5, hkv⟩ := H2.out.at hlt
                replace e0 := hm1 _ _ e0
                replace e1 := hm1 _ _ e1
                replace e2 := hm1 _ _ e2
                replace e3 := hm1 _ _ e3
                replace e4 := hm1 _ _ e4
                replace e5 := hm1 _ _ e5
                have HKV := Lib.hid hkv
                have HM1 := Lib.hid hm1
                have HSk := Lib.hid (show SizeOf.sizeOf t.more[k] < n from by have := IT.lt_more' (t := t) (List.getElem_mem hlt); have := HN.out; omega)
                have HWk := Lib.hid (show WI t.more[k] ≤ 1000000 from Nat.le_trans (WI_more (List.getElem_mem hlt)) HW.out)
                have HV := Lib.hid (fun k' (e : v.ownBlock = some k') => hI.out.2.1.lt k' e)
                clear hkv hm1
                go_wp2
                have HC := Lib.hid (show (wr.alloc (.cells #[.int .i64 kd, .string nm, .string tx, .slice ak' nk ck', .slice a1' n1 c1', .slice a2' n2 c2'] 25)).heap[wr.heap.size]? = _ from al_new rfl)
                have HB := Lib.hid (show (wr.alloc (.cells #[.int .i64 kd, .string nm, .string tx, .slice ak' nk ck', .slice a1' n1 c1', .slice a2' n2 c2'] 25)).heap[w.heap.size + 1 + 1]? = _ from al_old hI.out.1)
                refine start_ (n := 8) (S := fun w' => w'.cell? ⟨w.heap.size + 1 + 1, 3, none⟩ = some v ∧ w'.cell? ⟨wr.heap.size, 0, none⟩ = some (.int .i64 kd) ∧ w'.cell? ⟨wr.heap.size, 1, none⟩ = some (.string nm) ∧ w'.cell? ⟨wr.heap.size, 2, none⟩ = some (.string tx) ∧ w'.cell? ⟨wr.heap.size, 3, none⟩ = some (.slice ak' nk ck') ∧ w'.cell? ⟨wr.heap.size, 4, none⟩ = some (.slice a1' n1 c1') ∧ w'.cell? ⟨wr.heap.size, 5, none⟩ = some (.slice a2' n2 c2')) (ds := [7]) (lb 8 0) (by kernel_rfl) rfl rfl ⟨cell_blk HB.out 3 rfl, cell_blk HC.out 0 rfl, cell_blk HC.out 1 rfl, cell_blk HC.out 2 rfl, cell_blk HC.out 3 rfl, cell_blk HC.out 4 rfl, cell_blk HC.out 5 rfl⟩ (fun hHeld => ?_)
                refine pure_ (i := 0) (N := some 53) (v := ?_) (a' := ?_) (lb 8 1) rfl rfl (by kernel_rfl) (fun _ _ _ h => h) (Or.inl ⟨by rfl, ?_⟩) ?_ ?_
                rotate_left
                · intro w'
                  go_simp
                  with_reducible rfl
                rotate_left
                · simp only [Act.put, nrA, nrB, nrC, i64_w, i32_w]
                  rfl
                refine take_ (i := 1) (N := some 54) (v := ?_) (a' := ?_) (lb 8 3) rfl rfl (by kernel_rfl) (fun _ _ _ h => h) (Or.inl ⟨by rfl, ?_⟩) hHeld ?_ ?_
                rotate_left
                · rintro w' ⟨s0, s1, s2, s3, s4, s5, s6⟩
                  go_simp
                  with_reducible rfl
                rotate_left
                · simp only [Act.put, nrA, nrB, nrC, i64_w, i32_w]
                  rfl
                refine take_ (i := 2) (N := some 55) (v := ?_) (a' := ?_) (lb 8 7) rfl rfl (by kernel_rfl) (fun _ _ _ h => h) (Or.inl ⟨by rfl, ?_⟩) hHeld ?_ ?_
                rotate_left
                · rintro w' ⟨s0, s1, s2, s3, s4, s5, s6⟩
                  go_simp
                  with_reducible rfl
                rotate_left
                · simp only [Act.put, nrA, nrB, nrC, i64_w, i32_w]
                  rfl
                refine one_ (i := 3) (N := some 56) (lb 8 15) rfl rfl (by kernel_rfl) (by decide) (fun K hK => ?_)
                refine goes_ Tryz.func43 (by kernel_rfl) rfl #[.agg #[.int .i64 kd, .string nm, .string tx, .slice ak' nk ck', .slice a1' n1 c1', .slice a2' n2 c2']] (by rfl) rfl rfl (by simp only [List.map_toArray, List.map_cons, List.map_nil]; rfl) ?_
                with_reducible refine (IH.out _ m _ _ _ _ _ _ _ _ _ _ _ _ _ HSk.out HWk.out HKV.out (mle_drew (mle_alloc HM1.out _))).mono ?_
                rintro e w1 ⟨kd', ak'', nk', ck'', a1'', n1', c1'', a2'', n2', c2'', rfl, hmv, hbl⟩
                refine ⟨_, rfl, ?_⟩
                have hB1 := bl_heap hbl HB.out
                have hC1 := bl_heap hbl HC.out
                refine hK.out _ _ ⟨cell_blk hB1 3 rfl, cell_blk hC1 0 rfl, cell_blk hC1 1 rfl, cell_blk hC1 2 rfl, cell_blk hC1 3 rfl, cell_blk hC1 4 rfl, cell_blk hC1 5 rfl⟩ (fun hHeld => ?_)
                clear hK K
                refine norm_ (a' := ?_) ?_ ?_
                rotate_left
                · show Act.put _ (some 56) _ = _
                  simp only [Act.put, nrA, nrB, nrC, i64_w, i32_w]
                  rfl
                refine one_ (i := 4) (N := some 57) (lb 8 31) rfl rfl (by kernel_rfl) (by decide) (fun K hK => ?_)
                refine value_ (w1 := ?_) (v := ?_) (by rfl) rfl ?_ ?_
                rotate_left 2
                · go_simp
                  constructor
                  · rfl
                  · rfl
                refine hK.out _ _ ⟨cell_blk (al_old hB1) 3 rfl, cell_blk (al_old hC1) 0 rfl, cell_blk (al_old hC1) 1 rfl, cell_blk (al_old hC1) 2 rfl, cell_blk (al_old hC1) 3 rfl, cell_blk (al_old hC1) 4 rfl, cell_blk (al_old hC1) 5 rfl⟩ (fun hHeld => ?_)
                clear hK K
                refine norm_ (a' := ?_) ?_ ?_
                rotate_left
                · show Act.put _ (some 57) _ = _
                  simp only [Act.put, nrA, nrB, nrC, i64_w, i32_w]
                  rfl
                refine one_ (i := 5) (N := some 58) (lb 8 63) rfl rfl (by kernel_rfl) (by decide) (fun K hK => ?_)
                refine step_snoc em_ST rfl _ _ _ rfl rfl _ _ rfl (Snoc.call em_ST hI.out.2.1 (HLO.out.mono (by have := HSM.out; omega)) (bl_alloc (Below.refl _ _) _).drew hbl hmv sl40 rfl (by simp [Value.oneCell']) (by have := HLN.out; simp; omega) (by have := HLN.out; simp [maxLen]; omega) hI.out.2.2.size) ?_
                intro g' cap w2 hown2 hg2 hv2 hgg
                have hB2 := grown_heap hg2 (al_old hB1) (fun k' e => by have := hv2 k' e; have := HSM.out; omega)
                have hC2 := grown_heap hg2 (al_old hC1) (fun k' e => by have := (HV.out k' e).2; omega)
                refine hK.out _ _ ⟨cell_blk hB2 3 rfl, cell_blk hC2 0 rfl, cell_blk hC2 1 rfl, cell_blk hC2 2 rfl, cell_blk hC2 3 rfl, cell_blk hC2 4 rfl, cell_blk hC2 5 rfl⟩ (fun hHeld => ?_)
                clear hK K
                refine norm_ (a' := ?_) ?_ ?_
                rotate_left
                · show Act.put _ (some 58) _ = _
                  simp only [Act.put, nrA, nrB, nrC, i64_w, i32_w]
                  rfl
                refine pure_ (i := 6) (N := some 59) (v := ?_) (a' := ?_) (lb 8 127) rfl rfl (by kernel_rfl) (fun _ _ _ h => h) (Or.inl ⟨by rfl, ?_⟩) ?_ ?_
                rotate_left
                · intro w'
                  go_simp
                  with_reducible rfl
                rotate_left
                · simp only [Act.put, nrA, nrB, nrC, i64_w, i32_w]
                  rfl
                refine last_ (i := 7) (N := none) (lb 8 255) rfl rfl (by kernel_rfl) (by decide) (fun K hK => ?_)
                have c3 := cell_blk hB2 3 rfl
                have f3 := froz_blk hB2 3
                refine skip_ (w1 := ?_) (by rfl) rfl ?_ ?_
                rotate_left
                · go_simp
                  rfl
                refine hK.out _ _ ?_
                clear hK K
                refine done_ (by kernel_rfl) ?_
                clear c3 f3 hC2
                go_wp2
                go_roundw
                case rel =>
                  have el : ((t.more.take k).map toS).length = k := by simp; omega
                  have ek : (t.more.take (k + 1)).map toS = (t.more.take k).map toS ++ [toS t.more[k]] := by rw [List.take_succ_eq_append_getElem hlt, List.map_append, List.map_cons, List.map_nil]
                  rw [el, ← ek] at hown2
                  have hS := HSM.out
                  refine ⟨k + 1, _, by omega, by go_num, set_blk hB2 3 _, hown2.setLow em_ST (show w.heap.size + 1 + 1 < wm.heap.size from by omega) _, ?_⟩
                  exact ((((hI.out.2.2.alloc _).drew.then hbl).alloc _).grown hg2 (fun k' e => .inr (hv2 k' e))).setCell (p := ⟨w.heap.size + 1 + 1, 3, none⟩) (.inl rfl) _
                case measure => simp [intOf]; omega
              · obtain rfl : k = t.more.length := by omega
                obtain ⟨hO, hown, hkp⟩ := hI.out
                rw [List.take_length] at hown
                have hkB : Below w.heap.size w wr := below_kp HBM.out hkp (fun i hi => by omega)
                have hOK := (HOK.out.kp em_Ky HK1.out (fun i h1 h2 e => by omega)).kp em_Ky hkp (fun i h1 h2 e => by omega)
                have hO1 := HOW1.out.kp em_ST hkp (fun i h1 h2 e => by have := HSZ.out; omega)
                obtain ⟨ak', ck', rfl, lk, rowk⟩ := hOK.rowK
                obtain ⟨a1', c1', rfl, lo1, row1⟩ := hO1.rowST
                obtain ⟨a2', c2', rfl, lo2, row2⟩ := hown.rowST
                have hR := hkp.heap (HK1.out.heap HR.out (by omega)) (by omega)
                obtain ⟨z0, z1, z2, z3⟩ := cells4 hR
                have zf := froz_blk hR
                obtain ⟨o0, o1, o2, o3⟩ := cells4 hO
                have ROWK := Lib.hid rowk
                have ROW1 := Lib.hid row1
                have ROW2 := Lib.hid row2
                have LOKS := Lib.hid (And.intro lk (And.intro lo1 lo2))
                have HBE := Lib.hid hkB
                have hs1 := HSZ.out
                have hs2 := HSM.out
                have hs3 := HK1.out.size
                have hs4 := hkp.size
                clear rowk row1 row2 lk lo1 lo2 hkB hOK hO1 hown hR hO hkp hI
                simp only [List.length_map] at o0 o1 o2 o3
                go_wp2
                refine bodyPost_ret (v := .agg #[.int .i64 t.kind, .slice ak' t.keys.length ck', .slice a1' t.kids.length c1', .slice a2' t.more.length c2']) (by simp [results, Tryz.results43, go_sem, z0, z1, z2, z3]) rfl ⟨_, _, _, _, _, _, _, _, _, _, rfl, ?_, ?_⟩
                · have hl : ∀ B', w.heap.size + 3 ≤ B' → MLe (fr m B' wr none) (fr m w.heap.size ((((wr.setCell ⟨w.heap.size + 1, 0, none⟩ (.int .i64 t.kind)).setCell ⟨w.heap.size + 1, 1, none⟩ (.slice ak' t.keys.length ck')).setCell ⟨w.heap.size + 1, 2, none⟩ (.slice a1' t.kids.length c1')).setCell ⟨w.heap.size + 1, 3, none⟩ (.slice a2' t.more.length c2')) none) := fun B' hB' => fr_lower HLO.out (by omega) fun k h1 h2 => by
                    repeat rw [Below.heap_setCell _ _ _ k (show k ≠ w.heap.size + 1 from by omega)]
                  have := MST.close' (t := toS t) (m := fr m w.heap.size ((((wr.setCell ⟨w.heap.size + 1, 0, none⟩ (.int .i64 t.kind)).setCell ⟨w.heap.size + 1, 1, none⟩ (.slice ak' t.keys.length ck')).setCell ⟨w.heap.size + 1, 2, none⟩ (.slice a1' t.kids.length c1')).setCell ⟨w.heap.size + 1, 3, none⟩ (.slice a2' t.more.length c2')) none) (ak := ak') (a1 := a1') (a2 := a2') (ck := ck') (c1 := c1') (c2 := c2') (by rw [toS_keys]; exact LOKS.out.1) (by rw [toS_kids]; exact LOKS.out.2.1) (by rw [toS_more]; exact LOKS.out.2.2)
                    (by rw [toS_keys]; exact ROWK.out.mono (hl _ (Nat.le_refl _))) (by rw [toS_kids]; exact ROW1.out.mono (hl _ (by omega))) (by rw [toS_more]; exact ROW2.out.mono (hl _ (by omega)))
                  rw [toS_kind, toS_keys, toS_kids, toS_more, List.length_map, List.length_map] at this
                  exact this
                · have hle : w.heap.size ≤ w.heap.size + 1 := by omega
                  exact (((HBE.out.setCell hle _).setCell hle _).setCell hle _).setCell hle _
end Go.Proofs.YtaglgokeejjagaaGreat
namespace Go.Proofs.YtaglgokeejjagaaGreat
set_option linter.unusedVariables false
set_option linter.unusedSimpArgs false
open Go.RowKit Go.Sort

def badV : Vl := .mk (-1) ⟨#[]⟩ [] []
def badS : ST := .mk (-1) [] [] []
/-- A value of the reference. -/
def valOf (t : Vl) : Vl := if WV t ≤ 5000 then t else badV
/-- A type of the reference. -/
def kindOf (t : IT) : ST := if WI t ≤ 5000 then toS t else badS
/-- A type that the package gives. -/
def givenOf (t : IT) : ST := if WI t ≤ 1000000 then toS t else badS

theorem rowS_nil (m : Mem) : RowS m none [] := fun h => absurd h (by simp)
theorem rowK_nil (m : Mem) : RowK m none [] := fun h => absurd h (by simp)
theorem rowV_nil (m : Mem) : RowV m none [] := ⟨fun _ => [], fun h => absurd h (by simp), fun i h => absurd h (by simp)⟩
theorem rowST_nil (m : Mem) : RowST m none [] := ⟨fun _ => [], fun h => absurd h (by simp), fun i h => absurd h (by simp)⟩
theorem lenOk_nil : lenOk 0 0 := ⟨Nat.le_refl _, by omega⟩
theorem mv_bad (m : Mem) : MV m (vlCells (-1) ⟨#[]⟩ none 0 0 none 0 0) badV := MV.close (ks := []) (kids := []) lenOk_nil lenOk_nil (rowS_nil m) (rowV_nil m)
theorem mst_bad (m : Mem) : MST m (stCells (-1) none 0 0 none 0 0 none 0 0) badS := MST.close (ks := []) (kids := []) (more := []) lenOk_nil lenOk_nil lenOk_nil (rowK_nil m) (rowST_nil m) (rowST_nil m)

set_option maxHeartbeats 1000000 in
set_option maxRecDepth 100000 in
theorem value_any (t : Vl) (m : Mem) (kd : Int) (tx : ByteArray) (ak : Option Addr) (nk ck : Nat) (a1 : Option Addr) (n1 c1 : Nat) (w : World) (hb : BdV t) (hv : MV m (vlCells kd tx ak nk ck a1 n1 c1) t) (hm : MLe m w.cell?) :
    Calls Tryz.prog 14 #[.agg #[.int .i64 kd, .string tx, .slice ak nk ck, .slice a1 n1 c1]] w (CpV (valOf t) m w) := by
  have HB := Lib.hid hb
  have HV := Lib.hid hv
  have HM := Lib.hid hm
  have HLO := Lib.hid (lo_of_mle hm)
  clear hb hv hm
  go_enter Tryz.func14, Tryz.ntmps14
  go_wp2_with fail
  refine (spacious_any (SizeOf.sizeOf t + 1) t m _ _ _ _ _ _ _ _ (w.heap.size + 1 + 1) 5000 _ (Nat.lt_succ_self _) HB.out HV.out (mle_alloc (mle_alloc (mle_alloc HM.out _) _) _) (av_lo HLO.out (by omega)) (by omega) (by omega) (al_new (by simp))).mono ?_
  rintro e w1 ⟨L', hs, rfl, hk, hp⟩
  have hX := hk.heap (k := w.heap.size) (al_old (al_old (al_new (o := .cells #[.int .i64 kd, .string tx, .slice ak nk ck, .slice a1 n1 c1] 29) rfl))) (by omega)
  have hR := hk.heap (k := w.heap.size + 1) (al_old (al_new (o := .cells #[.int .i64 0, .string ⟨#[]⟩, .slice none 0 0, .slice none 0 0] 36) (by simp))) (by omega)
  have hz := hk.size
  simp at hz
  obtain ⟨x0, x1, x2, x3⟩ := cells4 hX
  obtain ⟨r0, r1, r2, r3⟩ := cells4 hR
  have rf := froz_blk hR
  have hm1 : MLe m w1.cell? := hk.mle_lo (mle_alloc (mle_alloc (mle_alloc HM.out _) _) _) HLO.out (fun i hi => by omega)
  have hbl : Below w.heap.size w w1 := below_kp (bl_alloc (bl_alloc (bl_alloc (Below.refl _ _) _) _) _) hk (fun i hi => by omega)
  have HM1 := Lib.hid hm1
  have HBL := Lib.hid hbl
  have HRB := Lib.hid hR
  clear hX hR hk hp hm1 hbl
  by_cases h : WV t ≤ 5000
  · have h0 : 0 ≤ L' := by rcases hs with ⟨h1, _⟩ | ⟨_, _, h3⟩ <;> omega
    clear hs
    have h1 : decide (0 ≤ L') = true := by simp; omega
    go_wp2_with fail
    refine (copiedValue_any (SizeOf.sizeOf t + 1) t m _ _ _ _ _ _ _ _ _ (Nat.lt_succ_self _) h HV.out HM1.out).mono ?_
    rintro e w2 ⟨kd', tx', ak', nk', ck', a1', n1', c1', rfl, hmv, hb2⟩
    obtain ⟨r0', r1', r2', r3'⟩ := cells4 (bl_heap hb2 HRB.out)
    have rf' := froz_blk (bl_heap hb2 HRB.out)
    have HMV := Lib.hid hmv
    have HB2 := Lib.hid hb2
    have hz2 := hb2.size
    clear hmv hb2
    go_wp2
    refine bodyPost_ret (v := .agg #[.int .i64 kd', .string tx', .slice ak' nk' ck', .slice a1' n1' c1']) (by simp [results, Tryz.results14, go_sem, r0', r1', r2', r3']) rfl ?_
    unfold valOf
    rw [if_pos h]
    refine ⟨_, _, _, _, _, _, _, _, rfl, ?_, ?_⟩
    · refine HMV.out.mono (fr_lower HLO.out (by omega) fun k h1 h2 => ?_)
      repeat rw [Below.heap_setCell _ _ _ k (show k ≠ w.heap.size + 1 from by omega)]
    · have hle : w.heap.size ≤ w.heap.size + 1 := by omega
      exact ((((bl_trans HBL.out HB2.out).setCell hle _).setCell hle _).setCell hle _).setCell hle _
  · have h0 : L' < 0 := by rcases hs with ⟨h1, h2⟩ | ⟨h1, _, _⟩ <;> omega
    clear hs
    have h1 : decide (0 ≤ L') = false := by simp; omega
    go_wp2
    refine bodyPost_ret (v := .agg #[.int .i64 (-1), .string ⟨#[]⟩, .slice none 0 0, .slice none 0 0]) (by simp [results, Tryz.results14, go_sem, r0, r1, r2, r3]) rfl ?_
    unfold valOf
    rw [if_neg h]
    refine ⟨_, _, _, _, _, _, _, _, rfl, mv_bad _, ?_⟩
    have hle : w.heap.size ≤ w.heap.size + 1 := by omega
    exact (((HBL.out.setCell hle _).setCell hle _).setCell hle _).setCell hle _

set_option maxHeartbeats 1000000 in
set_option maxRecDepth 100000 in
theorem kind_any (t : IT) (m : Mem) (kd : Int) (nm tx : ByteArray) (ak : Option Addr) (nk ck : Nat) (a1 : Option Addr) (n1 c1 : Nat) (a2 : Option Addr) (n2 c2 : Nat) (w : World) (hb : BdI t) (hv : MIT m (itCells kd nm tx ak nk ck a1 n1 c1 a2 n2 c2) t) (hm : MLe m w.cell?) :
    Calls Tryz.prog 16 #[.agg #[.int .i64 kd, .string nm, .string tx, .slice ak nk ck, .slice a1 n1 c1, .slice a2 n2 c2]] w (CpT (kindOf t) m w) := by
  have HB := Lib.hid hb
  have HV := Lib.hid hv
  have HM := Lib.hid hm
  have HLO := Lib.hid (lo_of_mle hm)
  clear hb hv hm
  go_enter Tryz.func16, Tryz.ntmps16
  go_wp2_with fail
  refine (roomy_any (SizeOf.sizeOf t + 1) t m _ _ _ _ _ _ _ _ _ _ _ _ (w.heap.size + 1 + 1) 5000 _ (Nat.lt_succ_self _) HB.out HV.out (mle_alloc (mle_alloc (mle_alloc HM.out _) _) _) (av_lo HLO.out (by omega)) (by omega) (by omega) (al_new (by simp))).mono ?_
  rintro e w1 ⟨L', hs, rfl, hk, hp⟩
  have hX := hk.heap (k := w.heap.size) (al_old (al_old (al_new (o := .cells #[.int .i64 kd, .string nm, .string tx, .slice ak nk ck, .slice a1 n1 c1, .slice a2 n2 c2] 25) rfl))) (by omega)
  have hR := hk.heap (k := w.heap.size + 1) (al_old (al_new (o := .cells #[.int .i64 0, .slice none 0 0, .slice none 0 0, .slice none 0 0] 42) (by simp))) (by omega)
  have hz := hk.size
  simp at hz
  obtain ⟨x0, x1, x2, x3, x4, x5⟩ := cells6 hX
  obtain ⟨r0, r1, r2, r3⟩ := cells4 hR
  have rf := froz_blk hR
  have hm1 : MLe m w1.cell? := hk.mle_lo (mle_alloc (mle_alloc (mle_alloc HM.out _) _) _) HLO.out (fun i hi => by omega)
  have hbl : Below w.heap.size w w1 := below_kp (bl_alloc (bl_alloc (bl_alloc (Below.refl _ _) _) _) _) hk (fun i hi => by omega)
  have HM1 := Lib.hid hm1
  have HBL := Lib.hid hbl
  have HRB := Lib.hid hR
  clear hX hR hk hp hm1 hbl
  by_cases h : WI t ≤ 5000
  · have h0 : 0 ≤ L' := by rcases hs with ⟨h1, _⟩ | ⟨_, _, h3⟩ <;> omega
    clear hs
    have h1 : decide (0 ≤ L') = true := by simp; omega
    go_wp2_with fail
    refine (copied_any (SizeOf.sizeOf t + 1) t m _ _ _ _ _ _ _ _ _ _ _ _ _ (Nat.lt_succ_self _) (by omega) HV.out HM1.out).mono ?_
    rintro e w2 ⟨kd', ak', nk', ck', a1', n1', c1', a2', n2', c2', rfl, hmv, hb2⟩
    obtain ⟨r0', r1', r2', r3'⟩ := cells4 (bl_heap hb2 HRB.out)
    have rf' := froz_blk (bl_heap hb2 HRB.out)
    have HMV := Lib.hid hmv
    have HB2 := Lib.hid hb2
    have hz2 := hb2.size
    clear hmv hb2
    go_wp2
    refine bodyPost_ret (v := .agg #[.int .i64 kd', .slice ak' nk' ck', .slice a1' n1' c1', .slice a2' n2' c2']) (by simp [results, Tryz.results16, go_sem, r0', r1', r2', r3']) rfl ?_
    unfold kindOf
    rw [if_pos h]
    refine ⟨_, _, _, _, _, _, _, _, _, _, rfl, ?_, ?_⟩
    · refine HMV.out.mono (fr_lower HLO.out (by omega) fun k h1 h2 => ?_)
      repeat rw [Below.heap_setCell _ _ _ k (show k ≠ w.heap.size + 1 from by omega)]
    · have hle : w.heap.size ≤ w.heap.size + 1 := by omega
      exact ((((bl_trans HBL.out HB2.out).setCell hle _).setCell hle _).setCell hle _).setCell hle _
  · have h0 : L' < 0 := by rcases hs with ⟨h1, h2⟩ | ⟨h1, _, _⟩ <;> omega
    clear hs
    have h1 : decide (0 ≤ L') = false := by simp; omega
    go_wp2
    refine bodyPost_ret (v := .agg #[.int .i64 (-1), .slice none 0 0, .slice none 0 0, .slice none 0 0]) (by simp [results, Tryz.results16, go_sem, r0, r1, r2, r3]) rfl ?_
    unfold kindOf
    rw [if_neg h]
    refine ⟨_, _, _, _, _, _, _, _, _, _, rfl, mst_bad _, ?_⟩
    have hle : w.heap.size ≤ w.heap.size + 1 := by omega
    exact (((HBL.out.setCell hle _).setCell hle _).setCell hle _).setCell hle _

set_option maxHeartbeats 1000000 in
set_option maxRecDepth 100000 in
theorem given_any (t : IT) (m : Mem) (kd : Int) (nm tx : ByteArray) (ak : Option Addr) (nk ck : Nat) (a1 : Option Addr) (n1 c1 : Nat) (a2 : Option Addr) (n2 c2 : Nat) (w : World) (hb : BdI t) (hv : MIT m (itCells kd nm tx ak nk ck a1 n1 c1 a2 n2 c2) t) (hm : MLe m w.cell?) :
    Calls Tryz.prog 20 #[.agg #[.int .i64 kd, .string nm, .string tx, .slice ak nk ck, .slice a1 n1 c1, .slice a2 n2 c2]] w (CpT (givenOf t) m w) := by
  have HB := Lib.hid hb
  have HV := Lib.hid hv
  have HM := Lib.hid hm
  have HLO := Lib.hid (lo_of_mle hm)
  clear hb hv hm
  go_enter Tryz.func20, Tryz.ntmps20
  go_wp2_with fail
  refine (roomy_any (SizeOf.sizeOf t + 1) t m _ _ _ _ _ _ _ _ _ _ _ _ (w.heap.size + 1 + 1) 1000000 _ (Nat.lt_succ_self _) HB.out HV.out (mle_alloc (mle_alloc (mle_alloc HM.out _) _) _) (av_lo HLO.out (by omega)) (by omega) (by omega) (al_new (by simp))).mono ?_
  rintro e w1 ⟨L', hs, rfl, hk, hp⟩
  have hX := hk.heap (k := w.heap.size) (al_old (al_old (al_new (o := .cells #[.int .i64 kd, .string nm, .string tx, .slice ak nk ck, .slice a1 n1 c1, .slice a2 n2 c2] 25) rfl))) (by omega)
  have hR := hk.heap (k := w.heap.size + 1) (al_old (al_new (o := .cells #[.int .i64 0, .slice none 0 0, .slice none 0 0, .slice none 0 0] 42) (by simp))) (by omega)
  have hz := hk.size
  simp at hz
  obtain ⟨x0, x1, x2, x3, x4, x5⟩ := cells6 hX
  obtain ⟨r0, r1, r2, r3⟩ := cells4 hR
  have rf := froz_blk hR
  have hm1 : MLe m w1.cell? := hk.mle_lo (mle_alloc (mle_alloc (mle_alloc HM.out _) _) _) HLO.out (fun i hi => by omega)
  have hbl : Below w.heap.size w w1 := below_kp (bl_alloc (bl_alloc (bl_alloc (Below.refl _ _) _) _) _) hk (fun i hi => by omega)
  have HM1 := Lib.hid hm1
  have HBL := Lib.hid hbl
  have HRB := Lib.hid hR
  clear hX hR hk hp hm1 hbl
  by_cases h : WI t ≤ 1000000
  · have h0 : 0 ≤ L' := by rcases hs with ⟨h1, _⟩ | ⟨_, _, h3⟩ <;> omega
    clear hs
    have h1 : decide (0 ≤ L') = true := by simp; omega
    go_wp2_with fail
    refine (copied_any (SizeOf.sizeOf t + 1) t m _ _ _ _ _ _ _ _ _ _ _ _ _ (Nat.lt_succ_self _) h HV.out HM1.out).mono ?_
    rintro e w2 ⟨kd', ak', nk', ck', a1', n1', c1', a2', n2', c2', rfl, hmv, hb2⟩
    obtain ⟨r0', r1', r2', r3'⟩ := cells4 (bl_heap hb2 HRB.out)
    have rf' := froz_blk (bl_heap hb2 HRB.out)
    have HMV := Lib.hid hmv
    have HB2 := Lib.hid hb2
    have hz2 := hb2.size
    clear hmv hb2
    go_wp2
    refine bodyPost_ret (v := .agg #[.int .i64 kd', .slice ak' nk' ck', .slice a1' n1' c1', .slice a2' n2' c2']) (by simp [results, Tryz.results20, go_sem, r0', r1', r2', r3']) rfl ?_
    unfold givenOf
    rw [if_pos h]
    refine ⟨_, _, _, _, _, _, _, _, _, _, rfl, ?_, ?_⟩
    · refine HMV.out.mono (fr_lower HLO.out (by omega) fun k h1 h2 => ?_)
      repeat rw [Below.heap_setCell _ _ _ k (show k ≠ w.heap.size + 1 from by omega)]
    · have hle : w.heap.size ≤ w.heap.size + 1 := by omega
      exact ((((bl_trans HBL.out HB2.out).setCell hle _).setCell hle _).setCell hle _).setCell hle _
  · have h0 : L' < 0 := by rcases hs with ⟨h1, h2⟩ | ⟨h1, _, _⟩ <;> omega
    clear hs
    have h1 : decide (0 ≤ L') = false := by simp; omega
    go_wp2
    refine bodyPost_ret (v := .agg #[.int .i64 (-1), .slice none 0 0, .slice none 0 0, .slice none 0 0]) (by simp [results, Tryz.results20, go_sem, r0, r1, r2, r3]) rfl ?_
    unfold givenOf
    rw [if_neg h]
    refine ⟨_, _, _, _, _, _, _, _, _, _, rfl, mst_bad _, ?_⟩
    have hle : w.heap.size ≤ w.heap.size + 1 := by omega
    exact (((HBL.out.setCell hle _).setCell hle _).setCell hle _).setCell hle _

end Go.Proofs.YtaglgokeejjagaaGreat
