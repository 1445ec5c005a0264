/- Proved: what 'spacious' takes off the bound for a value. Conditions: the value lies in memory as MV says, within BdV. -/
import Derived.Test.YtaglgokeejjagaaGreatOwn
import Derived.Test.YtaglgokeejjagaaGreatPure1
import Derived.Test.YtaglgokeejjagaaGreatWLast
namespace Go.Proofs.YtaglgokeejjagaaGreat
set_option linter.unusedVariables false
set_option linter.unusedSimpArgs false
open Go.RowKit Go.Sort Go.Proofs.YtaglgokeejjagaaGreatW.PrintLast

def SpPost (W : Nat) (L : Int) (pb : Nat) (w : World) (e : Ending) (w' : World) : Prop :=
  ∃ L', Sp W L L' ∧ e = .returned (.bool (decide (0 ≤ L'))) ∧ Kp (· = pb) w w' ∧ w'.heap[pb]? = some (.cells #[.int .i64 L'] 3 (0, 0))

set_option maxHeartbeats 2000000 in
set_option maxRecDepth 100000 in
theorem spacious_any (n : Nat) : ∀ (t : Vl) (m : Mem) (kd : Int) (tx : ByteArray) (ak : Option Addr) (nk ck : Nat) (a1 : Option Addr) (n1 c1 : Nat) (pb : Nat) (L : Int) (w : World), SizeOf.sizeOf t < n → BdV t → MV m (vlCells kd tx ak nk ck a1 n1 c1) t → MLe m w.cell? → Av m pb →
    0 ≤ L → L ≤ 1000000 → w.heap[pb]? = some (.cells #[.int .i64 L] 3 (0, 0)) →
    Calls Tryz.prog 38 #[.agg #[.int .i64 kd, .string tx, .slice ak nk ck, .slice a1 n1 c1], .pointer (some ⟨pb, 0, none⟩)] w (SpPost (WV t) L pb w) := by
  induction n with
  | zero => intro t m kd tx ak nk ck a1 n1 c1 pb L w h; exact absurd h (Nat.not_lt_zero _)
  | succ n ih =>
    intro t m kd tx ak nk ck a1 n1 c1 pb L w hn hw hv hm ha hL0 hL1 hp
    have IH := Lib.hid ih
    clear ih
    obtain ⟨rfl, rfl, rfl, rfl, ⟨lk1, lk2⟩, ⟨l11, l12⟩, rk, r1⟩ := hv.open
    obtain ⟨hb1, hb2, hb3, hb4, hb5⟩ := hw.out
    have hplt := lt_blk hp
    have HK := Lib.hid rk
    have H1 := Lib.hid r1
    have HM := Lib.hid hm
    have HA := Lib.hid ha
    have HN := Lib.hid hn
    have HP := Lib.hid hp
    have HB3 := Lib.hid hb3
    have HB5 := Lib.hid hb5
    clear rk r1 hm hn hv ha hp hb3 hb5
    go_enter Tryz.func38, Tryz.ntmps38
    go_wp2
    have HX := Lib.hid (show (w.alloc (.cells #[.int .i64 t.kind, .string t.text, .slice ak t.keys.length ck, .slice a1 t.kids.length c1] 29)).heap[w.heap.size]? = _ from al_new rfl)
    have HQ := Lib.hid (show (w.alloc (.cells #[.int .i64 t.kind, .string t.text, .slice ak t.keys.length ck, .slice a1 t.kids.length c1] 29)).heap[pb]? = _ from al_old HP.out)
    have cq := cells1 HQ.out
    refine start_ (n := 14) (S := fun w' => w'.cell? ⟨pb, 0, none⟩ = some (.int .i64 L) ∧ w'.cell? ⟨w.heap.size, 1, none⟩ = some (.string t.text) ∧ w'.cell? ⟨w.heap.size, 2, none⟩ = some (.slice ak t.keys.length ck)) (ds := [13]) #[false, false, false, false, false, false, false, false, false, false, false, false, false, false] (by kernel_rfl) rfl rfl ⟨cell_blk HQ.out 0 rfl, cell_blk HX.out 1 rfl, cell_blk HX.out 2 rfl⟩ (fun hHeld => ?_)
    refine pure_ (i := 0) (N := some 7) (v := ?_) (a' := ?_) #[true, false, false, false, false, false, false, false, false, false, false, false, false, false] rfl rfl (by kernel_rfl) (fun _ _ _ h => h) (Or.inl ⟨by rfl, ?_⟩) ?_ ?_
    rotate_left
    · intro w'
      go_simp
      with_reducible rfl
    rotate_left
    · simp only [Act.put, List.setIfInBounds_toArray, List.set_cons_zero, List.set_cons_succ, i64_w, i32_w]
      rfl
    refine pure_ (i := 1) (N := some 8) (v := ?_) (a' := ?_) #[true, true, false, false, false, false, false, false, false, false, false, false, false, false] rfl rfl (by kernel_rfl) (fun _ _ _ h => h) (Or.inl ⟨by rfl, ?_⟩) ?_ ?_
    rotate_left
    · intro w'
      go_simp
      with_reducible rfl
    rotate_left
    · simp only [Act.put, List.setIfInBounds_toArray, List.set_cons_zero, List.set_cons_succ, i64_w, i32_w]
      rfl
    refine pure_ (i := 3) (N := some 10) (v := ?_) (a' := ?_) #[true, true, false, true, false, false, false, false, false, false, false, false, false, false] rfl rfl (by kernel_rfl) (fun _ _ _ h => h) (Or.inl ⟨by rfl, ?_⟩) ?_ ?_
    rotate_left
    · intro w'
      go_simp
      with_reducible rfl
    rotate_left
    · simp only [Act.put, List.setIfInBounds_toArray, List.set_cons_zero, List.set_cons_succ, i64_w, i32_w]
      rfl
    refine pure_ (i := 7) (N := some 14) (v := ?_) (a' := ?_) #[true, true, false, true, false, false, false, true, false, false, false, false, false, false] rfl rfl (by kernel_rfl) (fun _ _ _ h => h) (Or.inl ⟨by rfl, ?_⟩) ?_ ?_
    rotate_left
    · intro w'
      go_simp
      with_reducible rfl
    rotate_left
    · simp only [Act.put, List.setIfInBounds_toArray, List.set_cons_zero, List.set_cons_succ, i64_w, i32_w]
      rfl
    refine take_ (i := 2) (N := some 9) (v := ?_) (a' := ?_) #[true, true, true, true, false, false, false, true, false, false, false, false, false, false] rfl rfl (by kernel_rfl) (fun _ _ _ h => h) (Or.inl ⟨by rfl, ?_⟩) hHeld ?_ ?_
    rotate_left
    · rintro w' ⟨s0, s1, s2⟩
      go_simp
      with_reducible rfl
    rotate_left
    · simp only [Act.put, List.setIfInBounds_toArray, List.set_cons_zero, List.set_cons_succ, i64_w, i32_w]
      rfl
    refine take_ (i := 4) (N := some 11) (v := ?_) (a' := ?_) #[true, true, true, true, true, false, false, true, false, false, false, false, false, false] rfl rfl (by kernel_rfl) (fun _ _ _ h => h) (Or.inl ⟨by rfl, ?_⟩) hHeld ?_ ?_
    rotate_left
    · rintro w' ⟨s0, s1, s2⟩
      go_simp
      with_reducible rfl
    rotate_left
    · simp only [Act.put, List.setIfInBounds_toArray, List.set_cons_zero, List.set_cons_succ, i64_w, i32_w]
      rfl
    refine pure_ (i := 5) (N := some 12) (v := ?_) (a' := ?_) #[true, true, true, true, true, true, false, true, false, false, false, false, false, false] rfl rfl (by kernel_rfl) (fun _ _ _ h => h) (Or.inl ⟨by rfl, ?_⟩) ?_ ?_
    rotate_left
    · intro w'
      go_simp
      with_reducible rfl
    rotate_left
    · simp only [Act.put, List.setIfInBounds_toArray, List.set_cons_zero, List.set_cons_succ, i64_w, i32_w]
      rfl
    refine pure_ (i := 6) (N := some 13) (v := ?_) (a' := ?_) #[true, true, true, true, true, true, true, true, false, false, false, false, false, false] rfl rfl (by kernel_rfl) (fun _ _ _ h => h) (Or.inl ⟨by rfl, ?_⟩) ?_ ?_
    rotate_left
    · intro w'
      go_simp
      with_reducible rfl
    rotate_left
    · simp only [Act.put, List.setIfInBounds_toArray, List.set_cons_zero, List.set_cons_succ, i64_w, i32_w]
      rfl
    refine take_ (i := 8) (N := some 15) (v := ?_) (a' := ?_) #[true, true, true, true, true, true, true, true, true, false, false, false, false, false] rfl rfl (by kernel_rfl) (fun _ _ _ h => h) (Or.inl ⟨by rfl, ?_⟩) hHeld ?_ ?_
    rotate_left
    · rintro w' ⟨s0, s1, s2⟩
      go_simp
      with_reducible rfl
    rotate_left
    · simp only [Act.put, List.setIfInBounds_toArray, List.set_cons_zero, List.set_cons_succ, i64_w, i32_w]
      rfl
    refine pure_ (i := 9) (N := some 16) (v := ?_) (a' := ?_) #[true, true, true, true, true, true, true, true, true, true, false, false, false, false] rfl rfl (by kernel_rfl) (fun _ _ _ h => h) (Or.inl ⟨by rfl, ?_⟩) ?_ ?_
    rotate_left
    · intro w'
      go_simp
      with_reducible rfl
    rotate_left
    · simp only [Act.put, List.setIfInBounds_toArray, List.set_cons_zero, List.set_cons_succ, i64_w, i32_w]
      rfl
    refine pure_ (i := 10) (N := some 17) (v := ?_) (a' := ?_) #[true, true, true, true, true, true, true, true, true, true, true, false, false, false] rfl rfl (by kernel_rfl) (fun _ _ _ h => h) (Or.inl ⟨by rfl, ?_⟩) ?_ ?_
    rotate_left
    · intro w'
      go_simp
      with_reducible rfl
    rotate_left
    · simp only [Act.put, List.setIfInBounds_toArray, List.set_cons_zero, List.set_cons_succ, i64_w, i32_w]
      rfl
    refine pure_ (i := 11) (N := some 18) (v := ?_) (a' := ?_) #[true, true, true, true, true, true, true, true, true, true, true, true, false, false] rfl rfl (by kernel_rfl) (fun _ _ _ h => h) (Or.inl ⟨by rfl, ?_⟩) ?_ ?_
    rotate_left
    · intro w'
      go_simp
      with_reducible rfl
    rotate_left
    · simp only [Act.put, List.setIfInBounds_toArray, List.set_cons_zero, List.set_cons_succ, i64_w, i32_w]
      rfl
    refine pure_ (i := 12) (N := some 19) (v := ?_) (a' := ?_) #[true, true, true, true, true, true, true, true, true, true, true, true, true, false] rfl rfl (by kernel_rfl) (fun _ _ _ h => h) (Or.inl ⟨by rfl, ?_⟩) ?_ ?_
    rotate_left
    · intro w'
      go_simp
      with_reducible rfl
    rotate_left
    · simp only [Act.put, List.setIfInBounds_toArray, List.set_cons_zero, List.set_cons_succ, i64_w, i32_w]
      rfl
    refine last_ (i := 13) (N := none) #[true, true, true, true, true, true, true, true, true, true, true, true, true, true] rfl rfl (by kernel_rfl) (by decide) (fun K hK => ?_)
    obtain ⟨cq0, cq1⟩ := cq
    refine skip_ (w1 := ?_) (by rfl) rfl ?_ ?_
    rotate_left
    · go_simp
      rfl
    refine hK.out _ _ ?_
    clear hK K
    refine done_ (by kernel_rfl) ?_
    clear hHeld
    go_wp2
    have e1 : wrap64 (L - wrap64 (wrap64 (1 + (t.text.size : Int)) + t.keys.length)) = L - ((1 + t.text.size + t.keys.length : Nat) : Int) := by
      rw [w64 (n := 1 + (t.text.size : Int)) (by omega), w64 (n := 1 + (t.text.size : Int) + t.keys.length) (by omega), w64 (by omega)]; omega
    have E1 := Lib.hid e1
    clear e1 cq0 cq1
    go_loopw [5] (fun i wr => ∃ (k : Nat) (L1 : Int), k ≤ t.keys.length ∧ i = .int .i64 k ∧ -1125899906842624 ≤ L1 ∧ L1 ≤ 1000000 ∧ Hid (
        wr.heap[pb]? = some (.cells #[.int .i64 L1] 3 (0, 0)) ∧
        wr.heap[w.heap.size]? = some (.cells #[.int .i64 t.kind, .string t.text, .slice ak t.keys.length ck, .slice a1 t.kids.length c1] 29 (0, 0)) ∧ Kp (· = pb) w wr ∧
        SpI (1 + t.text.size + t.keys.length + ((t.keys.take k).map ByteArray.size).sum) (WV t) L L1)) (fun i _ => t.keys.length - (intOf i).toNat)
    case atStart =>
      have hs : SpI (1 + t.text.size + t.keys.length) (WV t) L (L - ((1 + t.text.size + t.keys.length : Nat) : Int)) := by
        have h0 : SpI 0 (WV t) L L := .inl ⟨hL0, by omega⟩
        have := h0.step hL0 (x := 1 + t.text.size + t.keys.length) (by omega) (by rw [WV_eq t]; omega)
        rwa [Nat.zero_add] at this
      have hb := hs.bd hL1
      rw [E1.out]
      refine ⟨0, _, Nat.zero_le _, rfl, hb.1, hb.2, ?_, ?_, ?_, ?_⟩
      · exact al_old (set_blk HP.out 0 _)
      · exact al_new (by simp)
      · exact (((Kp.refl (· = pb) w).setCell (p := ⟨pb, 0, none⟩) (.inl rfl) _).alloc _).drew
      · simpa using hs
    case round =>
      obtain ⟨k, L1, hk, rfl, hl1, hl2, hI⟩ := hrel
      obtain ⟨b0, b1, b2, b3⟩ := cells4 hI.out.2.1
      obtain ⟨q0, q1⟩ := cells1 hI.out.1
      by_cases hc : k < t.keys.length ∧ 0 ≤ L1
      · obtain ⟨hlt, h0⟩ := hc
        have hm1 := kp_mle HM.out HA.out hI.out.2.2.1
        obtain ⟨b, off, rfl, e0⟩ := HK.out.at hlt
        replace e0 := hm1 _ _ e0
        have hsz := HB3.out _ (List.getElem_mem hlt)
        clear hm1
        go_wp2
        refine start_ (n := 12) (S := fun w' => w'.cell? ⟨pb, 0, none⟩ = some (.int .i64 L1) ∧ w'.cell? ⟨w.heap.size, 2, none⟩ = some (.slice (some ⟨b, off, none⟩) t.keys.length ck) ∧ w'.cell? ⟨b, off + k, none⟩ = some (.string t.keys[k])) (ds := [11]) #[false, false, false, false, false, false, false, false, false, false, false, false] (by kernel_rfl) rfl rfl ⟨q0, b2, e0⟩ (fun hHeld => ?_)
        refine pure_ (i := 0) (N := some 33) (v := ?_) (a' := ?_) #[true, false, false, false, false, false, false, false, false, false, false, false] rfl rfl (by kernel_rfl) (fun _ _ _ h => h) (Or.inl ⟨by rfl, ?_⟩) ?_ ?_
        rotate_left
        · intro w'
          go_simp
          with_reducible rfl
        rotate_left
        · simp only [Act.put, List.setIfInBounds_toArray, List.set_cons_zero, List.set_cons_succ, i64_w, i32_w]
          rfl
        refine pure_ (i := 1) (N := some 34) (v := ?_) (a' := ?_) #[true, true, false, false, false, false, false, false, false, false, false, false] rfl rfl (by kernel_rfl) (fun _ _ _ h => h) (Or.inl ⟨by rfl, ?_⟩) ?_ ?_
        rotate_left
        · intro w'
          go_simp
          with_reducible rfl
        rotate_left
        · simp only [Act.put, List.setIfInBounds_toArray, List.set_cons_zero, List.set_cons_succ, i64_w, i32_w]
          rfl
        refine pure_ (i := 3) (N := some 36) (v := ?_) (a' := ?_) #[true, true, false, true, false, false, false, false, false, false, false, false] rfl rfl (by kernel_rfl) (fun _ _ _ h => h) (Or.inl ⟨by rfl, ?_⟩) ?_ ?_
        rotate_left
        · intro w'
          go_simp
          with_reducible rfl
        rotate_left
        · simp only [Act.put, List.setIfInBounds_toArray, List.set_cons_zero, List.set_cons_succ, i64_w, i32_w]
          rfl
        refine pure_ (i := 5) (N := some 38) (v := ?_) (a' := ?_) #[true, true, false, true, false, true, false, false, false, false, false, false] rfl rfl (by kernel_rfl) (fun _ _ _ h => h) (Or.inl ⟨by rfl, ?_⟩) ?_ ?_
        rotate_left
        · intro w'
          go_simp
          with_reducible rfl
        rotate_left
        · simp only [Act.put, List.setIfInBounds_toArray, List.set_cons_zero, List.set_cons_succ, i64_w, i32_w]
          rfl
        refine take_ (i := 2) (N := some 35) (v := ?_) (a' := ?_) #[true, true, true, true, false, true, false, false, false, false, false, false] rfl rfl (by kernel_rfl) (fun _ _ _ h => h) (Or.inl ⟨by rfl, ?_⟩) hHeld ?_ ?_
        rotate_left
        · rintro w' ⟨s0, s1, s2⟩
          go_simp
          with_reducible rfl
        rotate_left
        · simp only [Act.put, List.setIfInBounds_toArray, List.set_cons_zero, List.set_cons_succ, i64_w, i32_w]
          rfl
        refine take_ (i := 4) (N := some 37) (v := ?_) (a' := ?_) #[true, true, true, true, true, true, false, false, false, false, false, false] rfl rfl (by kernel_rfl) (fun _ _ _ h => h) (Or.inl ⟨by rfl, ?_⟩) hHeld ?_ ?_
        rotate_left
        · rintro w' ⟨s0, s1, s2⟩
          go_simp
          with_reducible rfl
        rotate_left
        · simp only [Act.put, List.setIfInBounds_toArray, List.set_cons_zero, List.set_cons_succ, i64_w, i32_w]
          rfl
        refine pure_ (i := 6) (N := some 39) (v := ?_) (a' := ?_) #[true, true, true, true, true, true, true, false, false, false, false, false] rfl rfl (by kernel_rfl) (fun _ _ _ h => h) (Or.inl ⟨by rfl, ?_⟩) ?_ ?_
        rotate_left
        · intro w'
          go_simp
          with_reducible rfl
        rotate_left
        · simp only [Act.put, List.setIfInBounds_toArray, List.set_cons_zero, List.set_cons_succ, i64_w, i32_w]
          rfl
        refine take_ (i := 7) (N := some 40) (v := ?_) (a' := ?_) #[true, true, true, true, true, true, true, true, false, false, false, false] rfl rfl (by kernel_rfl) (fun _ _ _ h => h) (Or.inl ⟨by rfl, ?_⟩) hHeld ?_ ?_
        rotate_left
        · rintro w' ⟨s0, s1, s2⟩
          go_simp
          with_reducible rfl
        rotate_left
        · simp only [Act.put, List.setIfInBounds_toArray, List.set_cons_zero, List.set_cons_succ, i64_w, i32_w]
          rfl
        refine pure_ (i := 8) (N := some 41) (v := ?_) (a' := ?_) #[true, true, true, true, true, true, true, true, true, false, false, false] rfl rfl (by kernel_rfl) (fun _ _ _ h => h) (Or.inl ⟨by rfl, ?_⟩) ?_ ?_
        rotate_left
        · intro w'
          go_simp
          with_reducible rfl
        rotate_left
        · simp only [Act.put, List.setIfInBounds_toArray, List.set_cons_zero, List.set_cons_succ, i64_w, i32_w]
          rfl
        refine pure_ (i := 9) (N := some 42) (v := ?_) (a' := ?_) #[true, true, true, true, true, true, true, true, true, true, false, false] rfl rfl (by kernel_rfl) (fun _ _ _ h => h) (Or.inl ⟨by rfl, ?_⟩) ?_ ?_
        rotate_left
        · intro w'
          go_simp
          with_reducible rfl
        rotate_left
        · simp only [Act.put, List.setIfInBounds_toArray, List.set_cons_zero, List.set_cons_succ, i64_w, i32_w]
          rfl
        refine pure_ (i := 10) (N := some 43) (v := ?_) (a' := ?_) #[true, true, true, true, true, true, true, true, true, true, true, false] rfl rfl (by kernel_rfl) (fun _ _ _ h => h) (Or.inl ⟨by rfl, ?_⟩) ?_ ?_
        rotate_left
        · intro w'
          go_simp
          with_reducible rfl
        rotate_left
        · simp only [Act.put, List.setIfInBounds_toArray, List.set_cons_zero, List.set_cons_succ, i64_w, i32_w]
          rfl
        refine last_ (i := 11) (N := none) #[true, true, true, true, true, true, true, true, true, true, true, true] rfl rfl (by kernel_rfl) (by decide) (fun K hK => ?_)
        refine skip_ (w1 := ?_) (by rfl) rfl ?_ ?_
        rotate_left
        · go_simp
          rfl
        refine hK.out _ _ ?_
        clear hK K
        refine done_ (by kernel_rfl) ?_
        clear hHeld
        go_wp2
        go_roundw
        case rel =>
          have e2 : wrap64 (L1 - (t.keys[k].size : Int)) = L1 - (t.keys[k].size : Int) := w64 (by omega)
          have hs := hI.out.2.2.2.step h0 (x := t.keys[k].size) (by omega) (by rw [WV_eq t]; have := sum_take_le ByteArray.size t.keys (k + 1); rw [sum_take_succ _ _ _ hlt] at this; omega)
          have hb := hs.bd hL1
          simp only [e2]
          refine ⟨k + 1, _, by omega, by go_num, hb.1, hb.2, set_blk hI.out.1 0 _, set_old hI.out.2.1 (show w.heap.size ≠ pb from by omega), (hI.out.2.2.1.drew.setCell (p := ⟨pb, 0, none⟩) (.inl rfl) _), ?_⟩
          rw [sum_take_succ _ _ _ hlt]
          simpa [Nat.add_assoc] using hs
        case measure => simp [intOf]; omega
      · have hJ : SpI (1 + t.text.size + t.keys.length + (t.keys.map ByteArray.size).sum) (WV t) L L1 := by
          by_cases h0 : 0 ≤ L1
          · have : k = t.keys.length := by omega
            have := hI.out.2.2.2
            rwa [‹k = t.keys.length›, List.take_length] at this
          · exact hI.out.2.2.2.neg (by omega)
        have HJ := Lib.hid hJ
        clear hJ
        have hcases : ¬ k < t.keys.length ∨ (k < t.keys.length ∧ L1 < 0) := by omega
        have HPX := Lib.hid hI.out.1
        have HBX := Lib.hid hI.out.2.1
        have HKP := Lib.hid hI.out.2.2.1
        clear hI hc
        rcases hcases with hc | ⟨hc, hc2⟩
        all_goals
          go_wp2
          obtain ⟨wo, rfl⟩ : ∃ wo : World, wo = wr := ⟨_, rfl⟩
          go_loopw [6] (fun i wr => ∃ (k : Nat) (L1 : Int), k ≤ t.kids.length ∧ i = .int .i64 k ∧ -1125899906842624 ≤ L1 ∧ L1 ≤ 1000000 ∧ Hid (
            wr.heap[pb]? = some (.cells #[.int .i64 L1] 3 (0, 0)) ∧
            wr.heap[w.heap.size]? = some (.cells #[.int .i64 t.kind, .string t.text, .slice ak t.keys.length ck, .slice a1 t.kids.length c1] 29 (0, 0)) ∧ Kp (· = pb) w wr ∧
            SpI (1 + t.text.size + t.keys.length + (t.keys.map ByteArray.size).sum + ((t.kids.take k).map WV).sum) (WV t) L L1)) (fun i _ => t.kids.length - (intOf i).toNat)
          case atStart => exact ⟨0, L1, Nat.zero_le _, rfl, hl1, hl2, HPX.out, HBX.out, HKP.out, by simpa using HJ.out⟩
          case round =>
            clear HPX HBX HKP HJ hl1 hl2 b0 b1 b2 b3 q0 q1
            obtain ⟨k2, L2, hk2, rfl, hm1, hm2, hI⟩ := hrel
            obtain ⟨b0, b1, b2, b3⟩ := cells4 hI.out.2.1
            obtain ⟨q0, q1⟩ := cells1 hI.out.1
            by_cases hc3 : k2 < t.kids.length ∧ 0 ≤ L2
            · obtain ⟨hlt, h0⟩ := hc3
              have hm1 := kp_mle HM.out HA.out hI.out.2.2.1
              obtain ⟨b, off, kd, tx, ak', nk, ck', a1', n1, c1', rfl, e0, e1, e2, e3, hkv⟩ := H1.out.at hlt
              replace e0 := hm1 _ _ e0
              replace e1 := hm1 _ _ e1
              replace e2 := hm1 _ _ e2
              replace e3 := hm1 _ _ e3
              have HKV := Lib.hid hkv
              have HM1 := Lib.hid hm1
              have HSk := Lib.hid (show SizeOf.sizeOf t.kids[k2] < n from by have := Vl.lt_kid' (t := t) (List.getElem_mem hlt); have := HN.out; omega)
              have HBk := Lib.hid (HB5.out _ (List.getElem_mem hlt))
              clear hkv hm1
              go_wp2_with (go_at_call 38; refine (IH.out _ m _ _ _ _ _ _ _ _ pb L2 _ HSk.out HBk.out HKV.out HM1.out HA.out h0 hm2 hI.out.1).mono ?_; rintro e w' ⟨L3, hs3, rfl, hk3, hp3⟩)
              go_roundw
              case rel =>
                have hs := hI.out.2.2.2.part h0 hs3 (by rw [WV_eq t]; have := sum_take_le WV t.kids (k2 + 1); rw [sum_take_succ _ _ _ hlt] at this; omega)
                have hb := hs.bd hL1
                refine ⟨k2 + 1, L3, by omega, by go_num, hb.1, hb.2, hp3, hk3.heap hI.out.2.1 (by omega), hI.out.2.2.1.trans hk3, ?_⟩
                rw [sum_take_succ _ _ _ hlt]
                simpa [Nat.add_assoc] using hs
              case measure => simp [intOf]; omega
            · have hJ : SpI (WV t) (WV t) L L2 := by
                by_cases h0 : 0 ≤ L2
                · have : k2 = t.kids.length := by omega
                  have := hI.out.2.2.2
                  rwa [‹k2 = t.kids.length›, List.take_length, ← WV_eq t] at this
                · exact hI.out.2.2.2.neg (by omega)
              have HJ := Lib.hid hJ
              clear hJ
              have hcases : ¬ k2 < t.kids.length ∨ (k2 < t.kids.length ∧ L2 < 0) := by omega
              have HPX := Lib.hid hI.out.1
              have HKP := Lib.hid hI.out.2.2.1
              clear hI hc3
              by_cases h0 : 0 ≤ L2
              · rcases hcases with hc | ⟨hc, hc2⟩
                · go_wp2
                  go_ret
                  exact ⟨L2, HJ.out, by simp [h0], HKP.out, HPX.out⟩
                · omega
              · rcases hcases with hc | ⟨hc, hc2⟩
                all_goals
                  go_wp2
                  go_ret
                  exact ⟨L2, HJ.out, by simp [h0], HKP.out, HPX.out⟩
end Go.Proofs.YtaglgokeejjagaaGreat
