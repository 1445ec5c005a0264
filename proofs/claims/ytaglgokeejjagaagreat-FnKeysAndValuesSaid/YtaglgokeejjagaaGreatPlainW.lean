/- 'plain', whole. -/
import Derived.Test.YtaglgokeejjagaaGreatPlainO
namespace Go.Proofs.YtaglgokeejjagaaGreat
set_option linter.unusedVariables false
set_option linter.unusedSimpArgs false
open Go.RowKit Go.Sort

set_option maxHeartbeats 2000000 in
set_option maxRecDepth 100000 in
theorem pl_set {m : Mem} {w : World} {b : Nat} {x : Value} {t : ST} (IH : Hid (PlOk t)) (hw : WS (.mk 7 [] [t] []) ≤ 1000000000) (h0 : m ⟨b, 0, none⟩ = some x) (e : RT m x t) (hm : MLe m w.cell?) :
    Calls Tryz.prog 44 #[.iface 108 (.pointer (some ⟨b, 0, none⟩))] w (PlP (.mk 7 [] [t] []) w) := by
  obtain ⟨T, y, rfl⟩ := e.shape
  have HE := Lib.hid e
  have HM := Lib.hid hm
  have HW := Lib.hid (Nat.le_trans (WS_kid (kd := 7) (ks := []) (kids := [t]) (more := []) (List.mem_singleton.2 rfl)) hw)
  have c0 := hm _ _ h0
  have hbw : b < w.heap.size := World.block_lt_of_cell? _ _ c0
  clear e hm h0 hw
  go_enter Tryz.func44, Tryz.ntmps44
  go_wp2_with (first | (go_at_call 44; refine (IH.out _ _ _ HW.out HE.out (mle_alloc HM.out _)).mono ?_; rintro e w2 ⟨ak, nk, ck, a1, n1, c1, a2, n2, c2, rfl, hmv, hbl⟩; have HB := bl_heap hbl (al_new rfl); obtain ⟨r0, r1, r2, r3, r4, r5⟩ := cells6 HB; have fr' := froz_blk HB; have hs := lt_blk HB; have HMV := Lib.hid hmv; have HBL := Lib.hid hbl; have HHB := Lib.hid HB; clear HB hmv hbl) | go_in)
  refine bodyPost_ret (v := .agg #[.int .i64 7, .string ⟨#[]⟩, .string ⟨#[]⟩, .slice none 0 0, .slice (some ⟨w2.heap.size, 0, none⟩) 1 1, .slice none 0 0]) (by simp [results, Tryz.results44, go_sem, r0, r1, r2, r3, r4, r5, hs, fr']) rfl ⟨_, _, _, _, _, _, _, _, _, rfl, ?_, ?_⟩
  · have hs1 := HBL.out.size
    simp at hs1
    have hk6 : ∀ k, w.heap.size + 1 ≤ k → k < w2.heap.size → ∀ (u1 u2 u3 u4 u5 u6 : Value) (o : Obj), ((((((((w2.setCell ⟨w.heap.size, 0, none⟩ u1).setCell ⟨w.heap.size, 1, none⟩ u2).setCell ⟨w.heap.size, 2, none⟩ u3).setCell ⟨w.heap.size, 3, none⟩ u4).setCell ⟨w.heap.size, 4, none⟩ u5).setCell ⟨w.heap.size, 5, none⟩ u6).alloc o).heap[k]?) = w2.heap[k]? := fun k h1 h2 u1 u2 u3 u4 u5 u6 o => by
      rw [Below.heap_alloc _ _ k (by simpa using h2)]
      repeat rw [Below.heap_setCell _ _ _ k (show k ≠ w.heap.size from by omega)]
    refine mit_mk rfl rfl rfl len0 ⟨Nat.le_refl _, by decide⟩ len0 (rowKn _ _) ?_ (rowIT_nil _ _)
    refine rowIT_one (HMV.out.mono (fr_deep (lo_m0 _) (by simp) (fun k e => by cases e) (fun k h1 h2 _ => hk6 k (by simpa using h1) h2 _ _ _ _ _ _ _) (.inl rfl))) (fun j u hj => ?_)
    unfold fr
    rw [if_pos (show w.heap.size ≤ w2.heap.size by omega), if_neg (by simp)]
    exact ucell_blk (al_new (by simp)) j (by simpa using hj)
  · have hle : w.heap.size ≤ w.heap.size := Nat.le_refl _
    refine bl_alloc ?_ _
    exact (((((((bl_trans (bl_alloc (Below.refl _ _) _) HBL.out)).setCell hle _).setCell hle _).setCell hle _).setCell hle _).setCell hle _).setCell hle _

def PlsP (l : List ST) (w : World) (e : Ending) (w' : World) : Prop := ∃ a c, e = .returned (.slice a l.length c) ∧ lenOk l.length c ∧ RowIT (fr m0 w.heap.size w' none) a (l.map toI) ∧ Below w.heap.size w w'
set_option maxHeartbeats 2000000 in
set_option maxRecDepth 100000 in
theorem plains_any {m : Mem} {w : World} {a : Option Addr} {c : Nat} {xs : List Value} {kids : List ST} (IH : Hid (∀ k ∈ kids, PlOk k)) (hw : ∀ k ∈ kids, WS k ≤ 1000000000) (hn : kids.length ≤ 1000000000) (lk : lenOk kids.length c) (hl : xs.length = kids.length) (r : RowX m a xs)
      (e : ∀ i (h1 : i < xs.length) (h2 : i < kids.length), RT m xs[i] kids[i]) (hm : MLe m w.cell?) : Calls Tryz.prog 63 #[.slice a kids.length c] w (PlsP kids w) := by
  obtain ⟨l1, l2⟩ := lk
  have HR := Lib.hid r
  have HE := Lib.hid e
  have HM := Lib.hid hm
  have HL := Lib.hid hl
  have HW := Lib.hid hw
  have HN := Lib.hid hn
  clear r e hm hl hw hn
  go_enter Tryz.func63, Tryz.ntmps63
  go_wp2
  go_loopw [3, 8] (fun v i wr => ∃ k : Nat, k ≤ kids.length ∧ i = .int .i64 k ∧ Hid (Own MIT m0 25 6 w.heap.size wr v ((kids.take k).map toI) ∧ Below w.heap.size w wr)) (fun _ i _ => kids.length - (intOf i).toNat)
  case atStart => exact ⟨0, Nat.zero_le _, rfl, Own.nil .., Below.refl _ _⟩
  case round =>
    obtain ⟨k, hk, rfl, hI⟩ := hrel
    by_cases hlt : k < kids.length
    · have hm1 := HM.out.trans (mle_below hI.out.2)
      have hkx : k < xs.length := by have := HL.out; omega
      obtain ⟨rb, off, ea, hx0⟩ := HR.out.at hkx
      subst ea
      have HXR := Lib.hid (HE.out k hkx hlt)
      obtain ⟨Tk, yk, hxs⟩ := HXR.out.shape
      have HSH := Lib.hid hxs
      have z0 := hm1 _ _ hx0
      rw [hxs] at z0
      have HM1 := Lib.hid hm1
      have HIN := Lib.hid (fun (W : World) (h : MLe m W.cell?) => show Calls Tryz.prog 44 #[.iface Tk yk] W (PlP kids[k] W) from IH.out _ (List.getElem_mem hlt) _ m W (HW.out _ (List.getElem_mem hlt)) (by rw [← HSH.out]; exact HXR.out) h)
      clear hxs hx0 hm1
      go_wp2_with (first | (go_at_call 44; refine (HIN.out _ HM1.out).mono ?_; rintro e w2 ⟨ak', nk', ck', a1', n1', c1', a2', n2', c2', rfl, hmv, hbl⟩; have HMV := Lib.hid hmv; have HBL := Lib.hid hbl; clear hmv hbl) | (at_builtin; refine wpList_snoc em_IT rfl _ _ _ rfl rfl _ _ rfl (Snoc.call em_IT hI.out.1 (lo_m0 _) (Below.refl _ _) HBL.out HMV.out sl23 rfl (by simp [Value.oneCell']) (by have := HN.out; simp; omega) (by have := HN.out; simp [maxLen]; omega) hI.out.2.size) ?_; intro g' cap w5 hown5 hg5 hv5 hgg5))
      go_roundw
      case rel =>
        have el : ((kids.take k).map toI).length = k := by simp; omega
        have ek : (kids.take (k + 1)).map toI = (kids.take k).map toI ++ [toI kids[k]] := by rw [List.take_succ_eq_append_getElem hlt, List.map_append, List.map_cons, List.map_nil]
        rw [← ek] at hown5
        refine ⟨k + 1, by omega, by go_num, ?_, bl_grown (bl_alloc (bl_trans hI.out.2 HBL.out) _) hg5 (fun k' e => hv5 k' e)⟩
        simp only [List.length_map, List.length_take, Nat.min_eq_left (Nat.le_of_lt hlt)] at hown5
        exact hown5
      case measure => simp [intOf]; omega
    · obtain rfl : k = kids.length := by omega
      obtain ⟨hown, hb⟩ := hI.out
      rw [List.take_length] at hown
      obtain ⟨a', c', rfl, lok, row⟩ := hown.rowIT
      have HB := Lib.hid hb
      have ROW := Lib.hid row
      have LOK := Lib.hid lok
      clear hown hb row lok hI
      go_wp2
      go_ret
      refine ⟨a', c', by simp, by have := LOK.out; simpa using this, ROW.out, HB.out⟩

set_option maxHeartbeats 2000000 in
set_option maxRecDepth 100000 in
theorem pl_any {m : Mem} {w : World} {a : Option Addr} {c : Nat} {xs : List Value} {kids : List ST} (IH : Hid (∀ k ∈ kids, PlOk k)) (hw : WS (.mk 8 [] kids []) ≤ 1000000000) (lk : lenOk kids.length c) (hl : xs.length = kids.length) (r : RowX m a xs)
      (e : ∀ i (h1 : i < xs.length) (h2 : i < kids.length), RT m xs[i] kids[i]) (hm : MLe m w.cell?) :
    Calls Tryz.prog 44 #[.iface 110 (.slice a kids.length c)] w (PlP (.mk 8 [] kids []) w) := by
  have HM := Lib.hid hm
  have HC := Lib.hid (fun (W : World) (h : MLe m W.cell?) => plains_any (w := W) IH (fun k hk => Nat.le_trans (WS_kid (kd := 8) (ks := []) (more := []) hk) hw) (Nat.le_trans (WS_lens 8 [] kids []).2.1 hw) lk hl r e h)
  clear hw lk hl r e hm
  go_enter Tryz.func44, Tryz.ntmps44
  go_wp2_with (first | (go_at_call 63; refine (HC.out _ (mle_alloc HM.out _)).mono ?_; rintro e w2 ⟨a1, c1, rfl, lok, row, hbl⟩; have HB := bl_heap hbl (al_new rfl); obtain ⟨r0, r1, r2, r3, r4, r5⟩ := cells6 HB; have fr' := froz_blk HB; have hs := lt_blk HB; have ROW := Lib.hid row; have LOK := Lib.hid lok; have HBL := Lib.hid hbl; clear HB row lok hbl) | go_in)
  refine bodyPost_ret (v := .agg #[.int .i64 8, .string ⟨#[]⟩, .string ⟨#[]⟩, .slice none 0 0, .slice a1 kids.length c1, .slice none 0 0]) (by simp [results, Tryz.results44, go_sem, r0, r1, r2, r3, r4, r5, hs, fr']) rfl ⟨_, _, _, _, _, _, _, _, _, rfl, ?_, ?_⟩
  · have hs1 := HBL.out.size
    simp at hs1
    have hk6 : ∀ k, w.heap.size + 1 ≤ k → k < w2.heap.size → ∀ (u1 u2 u3 u4 u5 u6 : Value), (((((((w2.setCell ⟨w.heap.size, 0, none⟩ u1).setCell ⟨w.heap.size, 1, none⟩ u2).setCell ⟨w.heap.size, 2, none⟩ u3).setCell ⟨w.heap.size, 3, none⟩ u4).setCell ⟨w.heap.size, 4, none⟩ u5).setCell ⟨w.heap.size, 5, none⟩ u6).heap[k]?) = w2.heap[k]? := fun k h1 h2 u1 u2 u3 u4 u5 u6 => by
      repeat rw [Below.heap_setCell _ _ _ k (show k ≠ w.heap.size from by omega)]
    have hrow := ROW.out
    simp only [World.size_alloc] at hrow
    refine mit_mk rfl rfl rfl len0 LOK.out len0 (rowKn _ _) (hrow.mono (fr_lower (lo_m0 _) (by omega) (fun k h1 h2 => hk6 k (by simpa using h1) h2 _ _ _ _ _ _))) (rowIT_nil _ _)
  · have hle : w.heap.size ≤ w.heap.size := Nat.le_refl _
    exact (((((((bl_trans (bl_alloc (Below.refl _ _) _) HBL.out)).setCell hle _).setCell hle _).setCell hle _).setCell hle _).setCell hle _).setCell hle _

theorem pl_n (n : Nat) : ∀ t, SizeOf.sizeOf t < n → PlOk t := by
  induction n with
  | zero => intro t h; exact absurd h (Nat.not_lt_zero _)
  | succ n ih =>
    intro t hn x m w hw hr hm
    cases hr with
    | null => exact pl_1
    | bool => exact pl_2
    | num => exact pl_3
    | str => exact pl_4
    | @arr b c a xs ds kids more h0 h1 lk hl r e hd h2 e2 => exact pl_arr (Lib.hid fun k hk => ih k (by rcases hk with h | h; exact Nat.lt_of_lt_of_le (ST.lt_kid h) (Nat.le_of_lt_succ hn); exact Nat.lt_of_lt_of_le (ST.lt_more h) (Nat.le_of_lt_succ hn))) hw h0 h1 lk hl r e hd h2 e2 hm
    | @obj b c a ps xs ks kids dv ds more h0 h1 lk hp hx hk r e0 e1 e so hd e2 => exact pl_obj (Lib.hid fun k hk => ih k (by rcases hk with h | h; exact Nat.lt_of_lt_of_le (ST.lt_kid h) (Nat.le_of_lt_succ hn); exact Nat.lt_of_lt_of_le (ST.lt_more h) (Nat.le_of_lt_succ hn))) hw h0 h1 lk hp hx hk r e0 e1 e hd e2 hm
    | @set b x t h0 e => exact pl_set (Lib.hid (ih t (Nat.lt_of_lt_of_le (ST.lt_kid (by simp)) (Nat.le_of_lt_succ hn)))) hw h0 e hm
    | @any c a xs kids lk hl r e => exact pl_any (Lib.hid fun k hk => ih k (Nat.lt_of_lt_of_le (ST.lt_kid hk) (Nat.le_of_lt_succ hn))) hw lk hl r e hm
theorem plain_any (t : ST) : PlOk t := pl_n _ t (Nat.lt_succ_self _)
end Go.Proofs.YtaglgokeejjagaaGreat
