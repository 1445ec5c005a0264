/- Numbers as text, and read again. -/
import Derived.Test.YtaglgokeejjagaaGreatDigits
import Derived.Laws.IdiomStrings
namespace Go.Proofs.YtaglgokeejjagaaGreat
set_option linter.unusedVariables false
set_option linter.unusedSimpArgs false
open Go.RowKit Go.Sort

/-- The digits of a number. -/
def digs (n : Nat) : List UInt8 := if h : n < 10 then [UInt8.ofNat (48 + n)] else digs (n / 10) ++ [UInt8.ofNat (48 + n % 10)]
termination_by n
decreasing_by omega
def numv (l : List UInt8) : Nat := l.foldl (fun v c => 10 * v + (c.toNat - 48)) 0
theorem numv_snoc (l : List UInt8) (c : UInt8) : numv (l ++ [c]) = 10 * numv l + (c.toNat - 48) := by unfold numv; rw [List.foldl_append]; rfl
theorem dig_nat {k : Nat} (h : k < 10) : (UInt8.ofNat (48 + k)).toNat = 48 + k := by rw [UInt8.toNat_ofNat']; omega
theorem numv_digs (n : Nat) : numv (digs n) = n := by
  rw [digs]
  by_cases h : n < 10
  · rw [dif_pos h]
    show 10 * 0 + ((UInt8.ofNat (48 + n)).toNat - 48) = n
    rw [dig_nat h]; omega
  · rw [dif_neg h, numv_snoc, numv_digs (n / 10), dig_nat (by omega)]; omega
termination_by n
decreasing_by omega
theorem digs_dig (n : Nat) : ∀ c ∈ digs n, 48 ≤ c.toNat ∧ c.toNat ≤ 57 := by
  rw [digs]
  by_cases h : n < 10
  · rw [dif_pos h]; intro c hc; rw [List.mem_singleton] at hc; rw [hc, dig_nat h]; omega
  · rw [dif_neg h]
    intro c hc
    rcases List.mem_append.1 hc with hc | hc
    · exact digs_dig (n / 10) c hc
    · rw [List.mem_singleton] at hc; rw [hc, dig_nat (show n % 10 < 10 by omega)]; omega
termination_by n
decreasing_by omega
theorem digs_len (n k : Nat) (h : n < 10 ^ (k + 1)) : (digs n).length ≤ k + 1 ∧ 1 ≤ (digs n).length := by
  induction k generalizing n with
  | zero => rw [digs, dif_pos (by simpa using h)]; simp
  | succ k ih =>
    rw [digs]
    by_cases h1 : n < 10
    · rw [dif_pos h1]; simp
    · rw [dif_neg h1]
      have := ih (n / 10) (by rw [Nat.pow_succ] at h; omega)
      simp; omega
theorem numv_take (l : List UInt8) (k : Nat) (h : k < l.length) : numv (l.take (k + 1)) = 10 * numv (l.take k) + (l[k].toNat - 48) := by
  rw [List.take_succ_eq_append_getElem h, numv_snoc]
theorem numv_mono (l : List UInt8) : ∀ k, numv (l.take k) ≤ numv l := by
  intro k
  by_cases hk : k < l.length
  · have h1 := numv_take l k hk
    have h2 := numv_mono l (k + 1)
    omega
  · rw [List.take_of_length_le (by omega)]; exact Nat.le_refl _
termination_by k => l.length - k

def NumQ (n : Nat) (w : World) (e : Ending) (w' : World) : Prop := ∃ tx : ByteArray, e = .returned (.string tx) ∧ tx.data.toList = digs n ∧ Gr w w'
theorem num_size {tx : ByteArray} {n : Nat} (h : tx.data.toList = digs n) (hn : n ≤ 1000000) : tx.size ≤ 7 ∧ 1 ≤ tx.size := by
  have := digs_len n 6 (by omega)
  have e : tx.size = tx.data.toList.length := by simp
  rw [e, h]; exact this
theorem conv1 (n : Nat) (h : n < 10) (w : World) : (convert 79 9 (.slice (some ⟨w.heap.size, 0, none⟩) 1 1)).run Tryz.prog (w.alloc (.cells #[.int .u8 (48 + (n : Int))] 5)) = .ok (.string ⟨#[UInt8.ofNat (48 + n)]⟩) (w.alloc (.cells #[.int .u8 (48 + (n : Int))] 5)) := by
  have := run_convert_bytes_back (P := Tryz.prog) (w.alloc (.cells #[.int .u8 (48 + (n : Int))] 5)) 79 9 5 ⟨w.heap.size, 0, none⟩ 1 [UInt8.ofNat (48 + n)] Tryz.underlying79 Tryz.underlying5 Tryz.underlying9 (fun j hj => by
    obtain rfl : j = 0 := by simp at hj; omega
    have e : ((⟨w.heap.size, 0, none⟩ : Addr).add 0) = ⟨w.heap.size, 0, none⟩ := rfl
    rw [e, World.cell?_alloc_new]
    simp only [List.getElem_cons_zero, dig_nat h]
    simp)
  exact this
set_option maxHeartbeats 2000000 in
set_option maxRecDepth 100000 in
theorem num_small (n : Nat) (h : n < 10) (w : World) : Calls Tryz.prog 24 #[.int .i64 n] w (NumQ n w) := by
  have HD := Lib.hid (show digs n = [UInt8.ofNat (48 + n)] by rw [digs, dif_pos h])
  have HC := Lib.hid (conv1 n h w)
  go_enter Tryz.func24, Tryz.ntmps24
  go_wp2
  rw [HC.out]
  go_wp2
  go_ret
  exact ⟨_, rfl, by rw [HD.out]; simp, (Gr.refl _).alloc _⟩
set_option maxHeartbeats 2000000 in
set_option maxRecDepth 100000 in
theorem num_any (n : Nat) (hn : n ≤ 1000000) (w : World) : Calls Tryz.prog 24 #[.int .i64 n] w (NumQ n w) := by
  by_cases h : n < 10
  · exact num_small n h w
  · have HD := Lib.hid (show digs n = digs (n / 10) ++ [UInt8.ofNat (48 + n % 10)] by rw [digs, dif_neg h])
    have H1 := Lib.hid (fun W => show Calls Tryz.prog 24 #[.int .i64 ((n : Int) / 10)] W (NumQ (n / 10) W) by
      rw [show (n : Int) / 10 = ((n / 10 : Nat) : Int) by omega]; exact num_any (n / 10) (by omega) W)
    have H2 := Lib.hid (fun W => show Calls Tryz.prog 24 #[.int .i64 ((n : Int) % 10)] W (NumQ (n % 10) W) by
      rw [show (n : Int) % 10 = ((n % 10 : Nat) : Int) by omega]; exact num_small (n % 10) (by omega) W)
    have HD2 := Lib.hid (show digs (n % 10) = [UInt8.ofNat (48 + n % 10)] by rw [digs, dif_pos (by omega)])
    go_enter Tryz.func24, Tryz.ntmps24
    go_wp2_with (go_at_call 24; first | (((with_reducible refine (H1.out _).mono ?_)); rintro e w2 ⟨tx, rfl, ht, hg⟩; obtain ⟨hz1, _⟩ := num_size ht (by omega); have HT := Lib.hid ht; have HG := Lib.hid hg; clear ht hg) | (((with_reducible refine (H2.out _).mono ?_)); rintro e w3 ⟨ty, rfl, ht, hg⟩; obtain ⟨hz2, _⟩ := num_size ht (by omega); have HT2 := Lib.hid ht; have HG2 := Lib.hid hg; clear ht hg))
    go_ret
    refine ⟨_, rfl, ?_, HG.out.trans HG2.out⟩
    rw [HD.out, ← HD2.out, ← HT.out, ← HT2.out]
    simp
termination_by n
decreasing_by omega

def I64Q (n : Nat) (w : World) (e : Ending) (w' : World) : Prop := e = .returned (.tuple #[.int .i64 n, .nilIface]) ∧ Gr w w'
set_option maxHeartbeats 2000000 in
set_option maxRecDepth 100000 in
theorem int64_any {tx : ByteArray} {n : Nat} (ht : tx.data.toList = digs n) (hn : n ≤ 1000000) (w : World) : Calls Tryz.prog 68 #[.string tx] w (I64Q n w) := by
  obtain ⟨hz7, hz1⟩ := num_size ht hn
  have hdig : ∀ j (h : j < tx.size), 48 ≤ (tx[j].toNat : Int) ∧ (tx[j].toNat : Int) ≤ 57 := fun j h => by
    have hm : tx[j] ∈ digs n := by
      rw [← ht]
      have e : tx[j] = tx.data.toList[j]'(by simpa using h) := rfl
      rw [e]; exact List.getElem_mem _
    have := digs_dig n _ hm
    omega
  have HV := Lib.hid (show ∀ k (h : k < tx.size), numv ((digs n).take (k + 1)) = 10 * numv ((digs n).take k) + (tx[k].toNat - 48) ∧ numv ((digs n).take k) ≤ n ∧ numv ((digs n).take (k + 1)) ≤ n from fun k h => by
    have hl : (digs n).length = tx.size := by rw [← ht]; simp
    have h1 := numv_take (digs n) k (by omega)
    have h2 := numv_mono (digs n) k
    have h3 := numv_mono (digs n) (k + 1)
    rw [numv_digs] at h2 h3
    have e : (digs n)[k]'(by omega) = tx[k] := by simp only [← ht]; rfl
    rw [e] at h1
    exact ⟨h1, h2, h3⟩)
  have HE := Lib.hid (show numv ((digs n).take tx.size) = n by
    have hl : (digs n).length = tx.size := by rw [← ht]; simp
    rw [List.take_of_length_le (by omega), numv_digs])
  have HD := Lib.hid hdig
  have hne : (!tx.toList.isEmpty) = true := by
    rw [ByteArray.toList_eq, ht]
    have := digs_len n 6 (by omega)
    cases hd : digs n with
    | nil => rw [hd] at this; simp at this
    | cons a r => rfl
  have hne2 : tx.toList.isEmpty = false := by simpa using hne
  have h45 : ((tx[0].toNat : Int) == 45) = false := by
    have := hdig 0 (by omega)
    simp; omega
  clear hdig ht
  go_enter Tryz.func68, Tryz.ntmps68
  go_wp2
  go_loop [6, 7] (fun v i => ∃ k : Nat, k ≤ tx.size ∧ i = .int .i64 k ∧ v = .int .i64 (numv ((digs n).take k) : Nat)) (fun _ i => tx.size - (intOf i).toNat)
  case atStart => exact ⟨0, Nat.zero_le _, rfl, rfl⟩
  case round =>
    obtain ⟨k, hk, rfl, rfl⟩ := hrel
    by_cases hlt : k < tx.size
    · obtain ⟨hd1, hd2⟩ := HD.out k hlt
      obtain ⟨v1, v2, v3⟩ := HV.out k hlt
      have HV1 := Lib.hid v1
      clear v1 v3
      generalize numv ((digs n).take k) = v at v2 HV1 ⊢
      go_wp2
      go_round
      case rel => exact ⟨k + 1, by omega, by go_num, by rw [HV1.out]; congr 1; omega⟩
      case measure => simp [intOf]; omega
    · obtain rfl : k = tx.size := by omega
      go_wp2
      go_ret2
      exact ⟨by rw [HE.out]; rfl, Gr.refl _⟩
end Go.Proofs.YtaglgokeejjagaaGreat
