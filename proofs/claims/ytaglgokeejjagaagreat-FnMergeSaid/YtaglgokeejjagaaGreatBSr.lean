/- 'slices.BinarySearchFunc' over types, and over properties. -/
import Derived.Test.YtaglgokeejjagaaGreatBui3
/- 'Compare' of the thin package. -/
namespace Go.Proofs.YtaglgokeejjagaaGreat
set_option linter.unusedVariables false
set_option linter.unusedSimpArgs false
open Go.RowKit Go.Sort Go.Proofs.YtaglgokeejjagaaGreatW.PrintLast

theorem compare_c {s s' : ST} {m : Mem} {x y : Value} {w : World} (h : RT m x s) (h' : RT m y s') (hm : MLe m (ucell w)) : Calls Tryz.prog 48 #[x, y] w (fun e w' => e = .returned (.int .i64 (cmpT s s')) ∧ Gr w w') := compare_any s s' m x y w h h' hm
end Go.Proofs.YtaglgokeejjagaaGreat
namespace Go.Proofs.YtaglgokeejjagaaGreat
set_option linter.unusedVariables false
set_option linter.unusedSimpArgs false
open Go.RowKit Go.Sort

def SrtL (l : List ST) : Prop := l.Pairwise (fun a b => cmpT a b ≤ 0)
def BsQ (l : List ST) (t : ST) (w : World) (e : Ending) (w' : World) : Prop :=
  ∃ (i : Nat) (b : Bool), e = .returned (.tuple #[.int .i64 i, .bool b]) ∧ i ≤ l.length ∧ (b = true → ∃ h : i < l.length, l[i] = t) ∧ (SrtL l → b = false → t ∉ l) ∧ Gr w w'
theorem cmpT_lt_trans {s t u : ST} (h : cmpT s t ≤ 0) (k : cmpT t u < 0) : cmpT s u < 0 := by
  rcases Int.lt_or_eq_of_le h with h | h
  · exact lexc_trans h k
  · have := lexc_eq h; unfold cmpT at k ⊢; rw [this]; exact k
theorem srt_le {l : List ST} (hs : SrtL l) {p q : Nat} (hp : p < l.length) (hq : q < l.length) (h : p ≤ q) : cmpT l[p] l[q] ≤ 0 := by
  rcases Nat.lt_or_eq_of_le h with h | h
  · exact List.pairwise_iff_getElem.1 hs p q hp hq h
  · subst h; rw [cmpT_self]; exact Int.le_refl _
theorem cmpT_ge_trans {s t u : ST} (h : cmpT s t ≤ 0) (k : 0 ≤ cmpT s u) : 0 ≤ cmpT t u := by
  refine Int.not_lt.1 fun hn => ?_
  have := cmpT_lt_trans h hn; omega
set_option maxHeartbeats 2000000 in
set_option maxRecDepth 100000 in
theorem cmpKN_any (a b : AK) (p : Nat) (w : World) (ha : w.cell? ⟨p, 0, none⟩ = some a.v) : Calls Tryz.prog 103 #[.pointer (some ⟨p, 0, none⟩), b.v] w (fun e w' => e = .returned (.int .i64 (a.cmp b)) ∧ Gr w w') := by
  have HC := Lib.hid (fun (W : World) => zz_any a b W)
  generalize a.cmp b = n at HC ⊢
  generalize a.v = x at *
  generalize b.v = y at *
  go_enter Tryz.func103, Tryz.ntmps103
  go_wp2_with (go_at_call 92; refine (HC.out _).mono ?_; rintro e w2 ⟨rfl, hg⟩)
  go_ret
  exact ⟨rfl, hg⟩

set_option maxHeartbeats 4000000 in
set_option maxRecDepth 100000 in
theorem bsT_any {m : Mem} {w : World} {a : Option Addr} {c : Nat} {xs : List Value} {l : List ST} {y : Value} {t : ST} (lk : lenOk l.length c) (hl : xs.length = l.length) (r : RowX m a xs) (e : ∀ i (h1 : i < xs.length) (h2 : i < l.length), RT m xs[i] l[i]) (hy : RT m y t) (hm : MLe m (ucell w)) (hn : l.length < 1000000000) :
    Calls Tryz.prog 105 #[.slice a l.length c, y, .func (.func 48) #[] #[]] w (BsQ l t w) := by
  obtain ⟨l1, l2⟩ := lk
  have HNT := Lib.hid (mem_of_ih (m := m) hl (fun i h1 h2 => (e i h1 h2).nt))
  have HTT := Lib.hid hy.nt
  have HM := Lib.hid hm
  obtain ⟨Ty, uy, rfl⟩ := hy.shape'
  obtain ⟨INV, hINV⟩ : ∃ INV : Nat → Nat → Prop, INV = fun lo hi => SrtL l → (∀ p (h : p < l.length), p < lo → cmpT l[p] t < 0) ∧ (∀ p (h : p < l.length), hi ≤ p → 0 ≤ cmpT l[p] t) := ⟨_, rfl⟩
  have HI0 := Lib.hid (show INV 0 l.length by rw [hINV]; exact fun _ => ⟨fun p _ h => absurd h (Nat.not_lt_zero _), fun p h1 h2 => by omega⟩)
  have HSTEP := Lib.hid (show ∀ k (hk : k < l.length), ∃ n : Int, (∀ W : World, MLe m (ucell W) → Calls Tryz.prog 48 #[xs.getD k .nilIface, .iface Ty uy] W (fun e w' => e = .returned (.int .i64 n) ∧ Gr W w')) ∧ (n < 0 → ∀ lo hi, lo ≤ k → INV lo hi → INV (k + 1) hi) ∧ (¬ n < 0 → ∀ lo hi, k < hi → INV lo hi → INV lo k) by
    intro k hk
    refine ⟨cmpT l[k] t, fun W hW => ?_, fun h lo hi h1 h2 => ?_, fun h lo hi h1 h2 => ?_⟩
    · rw [getD_eq _ _ (by omega)]
      exact compare_c (e k (by omega) hk) hy hW
    · rw [hINV] at h2 ⊢
      exact fun hs => ⟨fun p hp hpk => cmpT_lt_trans (srt_le hs hp hk (by omega)) h, (h2 hs).2⟩
    · rw [hINV] at h2 ⊢
      exact fun hs => ⟨(h2 hs).1, fun p hp hpk => cmpT_ge_trans (srt_le hs hk hp hpk) (by omega)⟩)
  have HEND := Lib.hid (show ∀ k (hk : k < l.length), ∃ n : Int, (∀ W : World, MLe m (ucell W) → Calls Tryz.prog 48 #[xs.getD k .nilIface, .iface Ty uy] W (fun e w' => e = .returned (.int .i64 n) ∧ Gr W w')) ∧ (n = 0 → ∃ h : k < l.length, l[k] = t) ∧ (¬ n = 0 → INV k k → SrtL l → t ∉ l) by
    intro k hk
    refine ⟨cmpT l[k] t, fun W hW => ?_, fun h => ⟨hk, (cmpT_zero (HNT.out _ (List.getElem_mem hk)) HTT.out).1 h⟩, fun h h2 hs hm => ?_⟩
    · rw [getD_eq _ _ (by omega)]
      exact compare_c (e k (by omega) hk) hy hW
    · rw [hINV] at h2
      obtain ⟨i, hi, e2⟩ := List.getElem_of_mem hm
      have h3 : 0 ≤ cmpT l[k] t := (h2 hs).2 k hk (Nat.le_refl _)
      by_cases hik : i < k
      · have := (h2 hs).1 i hi hik
        rw [e2, cmpT_self] at this; omega
      · have h4 := srt_le hs hk hi (by omega)
        rw [e2] at h4; omega)
  have HLAST := Lib.hid (show INV l.length l.length → SrtL l → t ∉ l by
    intro h2 hs hm
    rw [hINV] at h2
    obtain ⟨i, hi, e2⟩ := List.getElem_of_mem hm
    have := (h2 hs).1 i hi hi
    rw [e2, cmpT_self] at this; omega)
  have HX := Lib.hid (show ∀ k (h : k < l.length), ∃ b off T u, a = some ⟨b, off, none⟩ ∧ m ⟨b, off + k, none⟩ = some (.iface T u) ∧ xs.getD k .nilIface = .iface T u by
    intro k hk
    obtain ⟨b, off, e1, e2⟩ := rowX_get r (show k < xs.length by omega)
    obtain ⟨T, u, e3⟩ := (e k (by omega) hk).shape'
    exact ⟨b, off, T, u, e1, by rw [← e3]; exact e2, by rw [getD_eq _ _ (by omega)]; exact e3⟩)
  clear hINV hl r e hm hy
  go_enter Tryz.func105, Tryz.ntmps105
  go_wp2
  go_loopw [9, 10] (fun s9 s10 wr => ∃ lo hi : Nat, s9 = .int .i64 lo ∧ s10 = .int .i64 hi ∧ lo ≤ hi ∧ hi ≤ l.length ∧ Hid (Gr w wr ∧ INV lo hi)) (fun s9 s10 _ => (intOf s10).toNat - (intOf s9).toNat)
  case atStart => exact ⟨0, l.length, rfl, rfl, Nat.zero_le _, Nat.le_refl _, Gr.refl _, HI0.out⟩
  case round =>
    obtain ⟨lo, hi, rfl, rfl, hlh, hin, hI⟩ := hrel
    by_cases hlt : lo < hi
    · have hmn : (lo + hi) / 2 < l.length := by omega
      obtain ⟨rb, off, T, u, ea, hx0, hx1⟩ := HX.out ((lo + hi) / 2) hmn
      subst ea
      have HMW := Lib.hid (HM.out.trans (mleU hI.out.1.below))
      have z0 := ucell_le _ _ (HMW.out _ _ hx0)
      have HX1 := Lib.hid hx1
      clear hx0 hx1
      obtain ⟨n, HCn, HL, HG⟩ := HSTEP.out ((lo + hi) / 2) hmn
      have HC := Lib.hid (HX1.out ▸ HCn)
      have HL := Lib.hid HL
      have HG := Lib.hid HG
      have HMN := Lib.hid hmn
      clear HCn hmn
      by_cases hn : n < 0
      · have HNN := Lib.hid hn
        have hd1 : decide (n < 0) = true := by simpa using hn
        clear hn
        go_wp2_with (go_at_call 48; refine (HC.out _ HMW.out).mono ?_; rintro e w2 ⟨rfl, hg⟩; have HGG := Lib.hid hg; clear hg)
        go_roundw
        case rel => exact ⟨(lo + hi) / 2 + 1, hi, by rw [show ((lo : Int) + (hi : Int)) / 2 + 1 = (((lo + hi) / 2 + 1 : Nat) : Int) by omega], rfl, by omega, hin, hI.out.1.trans HGG.out, HL.out HNN.out lo hi (by omega) hI.out.2⟩
        case measure => simp [intOf]; omega
      · have HNN := Lib.hid hn
        have hd1 : decide (n < 0) = false := by simpa using hn
        clear hn
        go_wp2_with (go_at_call 48; refine (HC.out _ HMW.out).mono ?_; rintro e w2 ⟨rfl, hg⟩; have HGG := Lib.hid hg; clear hg)
        go_roundw
        case rel => exact ⟨lo, (lo + hi) / 2, rfl, by rw [show ((lo : Int) + (hi : Int)) / 2 = (((lo + hi) / 2 : Nat) : Int) by omega], by omega, by omega, hI.out.1.trans HGG.out, HG.out HNN.out lo hi (by omega) hI.out.2⟩
        case measure => simp [intOf]; omega
    · obtain rfl : lo = hi := by omega
      by_cases hlN : lo < l.length
      · obtain ⟨mid, hmid⟩ : ∃ mid, mid = lo := ⟨_, rfl⟩
        subst hmid
        obtain ⟨rb, off, T, u, ea, hx0, hx1⟩ := HX.out mid hlN
        subst ea
        have HMW := Lib.hid (HM.out.trans (mleU hI.out.1.below))
        have z0 := ucell_le _ _ (HMW.out _ _ hx0)
        have HX1 := Lib.hid hx1
        clear hx0 hx1
        obtain ⟨n, HCn, HY, HNo⟩ := HEND.out mid hlN
        have HC := Lib.hid (HX1.out ▸ HCn)
        have HY := Lib.hid HY
        have HNo := Lib.hid HNo
        clear HCn
        by_cases hn : n = 0
        · have HNN := Lib.hid hn
          have hd1 : (n == 0) = true := by simpa using hn
          clear hn
          go_wp2_with (go_at_call 48; refine (HC.out _ HMW.out).mono ?_; rintro e w2 ⟨rfl, hg⟩; have HGG := Lib.hid hg; clear hg)
          go_ret2
          exact ⟨mid, true, rfl, hin, fun _ => HY.out HNN.out, (fun _ h => by cases h), hI.out.1.trans HGG.out⟩
        · have HNN := Lib.hid hn
          have hd1 : (n == 0) = false := by simpa using hn
          clear hn
          go_wp2_with (go_at_call 48; refine (HC.out _ HMW.out).mono ?_; rintro e w2 ⟨rfl, hg⟩; have HGG := Lib.hid hg; clear hg)
          go_ret2
          exact ⟨mid, false, rfl, hin, (fun h => by cases h), fun hs _ => HNo.out HNN.out hI.out.2 hs, hI.out.1.trans HGG.out⟩
      · have hloN : lo = l.length := by omega
        subst hloN
        go_wp2
        go_ret2
        exact ⟨_, false, rfl, Nat.le_refl _, (fun h => by cases h), fun hs _ => HLAST.out hI.out.2 hs, hI.out.1⟩
end Go.Proofs.YtaglgokeejjagaaGreat
