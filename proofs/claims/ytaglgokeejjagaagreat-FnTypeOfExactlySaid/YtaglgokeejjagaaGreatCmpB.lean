/- 'Compare' at rows of types. -/
import Derived.Test.YtaglgokeejjagaaGreatCmpA
namespace Go.Proofs.YtaglgokeejjagaaGreat
set_option linter.unusedVariables false
set_option linter.unusedSimpArgs false
open Go.RowKit Go.Sort Go.Shelf

def CmpOk (s : ST) : Prop := ∀ (t : ST) (m : Mem) (x y : Value) (w : World), RT m x s → RT m y t → MLe m (ucell w) → Calls Tryz.prog 48 #[x, y] w (CmpQ (cmpT s t) w)

theorem cmpL_drop {l l' : List ST} {k : Nat} (h : k < l.length) (h' : k < l'.length) : cmpL (l.drop k) (l'.drop k) = if cmpT l[k] l'[k] = 0 then cmpL (l.drop (k + 1)) (l'.drop (k + 1)) else cmpT l[k] l'[k] := by
  rw [List.drop_eq_getElem_cons h, List.drop_eq_getElem_cons h', cmpL]
theorem cmpL_out {l l' : List ST} {k : Nat} (h : k < l.length) (h' : l'.length ≤ k) : cmpL (l.drop k) (l'.drop k) = 1 := by
  rw [List.drop_eq_getElem_cons h, List.drop_of_length_le h', cmpL]
theorem cmpL_end {l l' : List ST} {k : Nat} (h : l.length ≤ k) : cmpL (l.drop k) (l'.drop k) = if k < l'.length then -1 else 0 := by
  rw [List.drop_of_length_le h]
  by_cases h' : k < l'.length
  · rw [if_pos h', List.drop_eq_getElem_cons h', cmpL]
  · rw [if_neg h', List.drop_of_length_le (by omega), cmpL]

set_option maxHeartbeats 2000000 in
set_option maxRecDepth 100000 in
theorem cmpf_any {m : Mem} {w : World} {a a' : Option Addr} {c c' : Nat} {xs ys : List Value} {l l' : List ST} (IH : Hid (∀ k ∈ l, CmpOk k)) (lk : lenOk l.length c) (hl : xs.length = l.length) (r : RowX m a xs) (e : ∀ i (h1 : i < xs.length) (h2 : i < l.length), RT m xs[i] l[i])
    (lk' : lenOk l'.length c') (hl' : ys.length = l'.length) (r' : RowX m a' ys) (e' : ∀ i (h1 : i < ys.length) (h2 : i < l'.length), RT m ys[i] l'[i]) (hm : MLe m (ucell w)) :
    Calls Tryz.prog 91 #[.slice a l.length c, .slice a' l'.length c', .func (.func 48) #[] #[]] w (CmpQ (cmpL l l') w) := by
  obtain ⟨l1, l2⟩ := lk
  obtain ⟨l1', l2'⟩ := lk'
  have HR := Lib.hid r
  have HE := Lib.hid e
  have HL := Lib.hid hl
  have HR' := Lib.hid r'
  have HE' := Lib.hid e'
  have HL' := Lib.hid hl'
  have HM := Lib.hid hm
  clear r e hl r' e' hl' hm
  go_enter Tryz.func91, Tryz.ntmps91
  go_wp2
  go_loopw [13] (fun i wr => ∃ k : Nat, k ≤ l.length ∧ k ≤ l'.length ∧ i = .int .i64 k ∧ Hid (Gr w wr ∧ cmpL l l' = cmpL (l.drop k) (l'.drop k))) (fun i _ => l.length - (intOf i).toNat)
  case atStart => exact ⟨0, Nat.zero_le _, Nat.zero_le _, rfl, Gr.refl _, rfl⟩
  case round =>
    obtain ⟨k, hk, hk', rfl, hI⟩ := hrel
    by_cases hlt : k < l.length
    · by_cases hlt' : k < l'.length
      · have hkx : k < xs.length := by have := HL.out; omega
        have hky : k < ys.length := by have := HL'.out; omega
        obtain ⟨rb, off, ea, hx0⟩ := rowX_get HR.out hkx
        obtain ⟨rb', off', ea', hy0⟩ := rowX_get HR'.out hky
        subst ea ea'
        have hm1 := HM.out.trans (mleU hI.out.1.below)
        have z0 := ucell_le _ _ (hm1 _ _ hx0)
        have z1 := ucell_le _ _ (hm1 _ _ hy0)
        have HX := Lib.hid (HE.out k hkx hlt)
        have HY := Lib.hid (HE'.out k hky hlt')
        obtain ⟨T, u, hxs⟩ := HX.out.shape'
        obtain ⟨T', u', hys⟩ := HY.out.shape'
        rw [hxs] at z0
        rw [hys] at z1
        have HM1 := Lib.hid hm1
        have HD := Lib.hid (cmpL_drop hlt hlt')
        have HC := Lib.hid (fun (W : World) (h : MLe m (ucell W)) => show Calls Tryz.prog 48 #[.iface T u, .iface T' u'] W (CmpQ (cmpT l[k] l'[k]) W) from IH.out _ (List.getElem_mem hlt) _ m _ _ W (hxs ▸ HX.out) (hys ▸ HY.out) h)
        clear hxs hys hx0 hy0 hm1
        generalize cmpT l[k] l'[k] = n at HD HC
        go_wp2_with (go_at_call 48; refine (HC.out _ HM1.out).mono ?_; rintro e w2 ⟨rfl, hg⟩; have HG := Lib.hid hg; clear hg)
        · go_ret
          rename (n != 0) = true => hn0
          have hn : ¬ n = 0 := by simpa using hn0
          exact ⟨ret_int64 (by rw [hI.out.2, HD.out, if_neg hn]), hI.out.1.trans HG.out⟩
        · rename (n != 0) = false => hn0
          have HN := Lib.hid (show n = 0 by simpa using hn0)
          clear hn0
          go_roundw
          case rel => exact ⟨k + 1, by omega, by omega, by go_num, hI.out.1.trans HG.out, by rw [hI.out.2, HD.out, if_pos HN.out]⟩
          case measure => simp [intOf]; omega
      · have hkx : k < xs.length := by have := HL.out; omega
        obtain ⟨rb, off, ea, hx0⟩ := rowX_get HR.out hkx
        subst ea
        have hm1 := HM.out.trans (mleU hI.out.1.below)
        have z0 := ucell_le _ _ (hm1 _ _ hx0)
        have HX := Lib.hid (HE.out k hkx hlt)
        obtain ⟨T, u, hxs⟩ := HX.out.shape'
        rw [hxs] at z0
        have HD := Lib.hid (cmpL_out hlt (by omega : l'.length ≤ k))
        clear hxs hx0 hm1
        go_wp2
        go_ret
        exact ⟨ret_int64 (by rw [hI.out.2, HD.out]), hI.out.1⟩
    · obtain rfl : k = l.length := by omega
      have HD := Lib.hid (cmpL_end (l := l) (l' := l') (Nat.le_refl _))
      by_cases hlt' : l.length < l'.length
      · go_wp2
        go_ret
        exact ⟨ret_int64 (by rw [hI.out.2, HD.out, if_pos hlt']), hI.out.1⟩
      · go_wp2
        go_ret
        exact ⟨ret_int64 (by rw [hI.out.2, HD.out, if_neg hlt']), hI.out.1⟩
end Go.Proofs.YtaglgokeejjagaaGreat
