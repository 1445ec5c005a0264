/- 'Compare' at types of different kinds; what it calls. -/
import Derived.Test.YtaglgokeejjagaaGreatCode
import Derived.BigQuiet
import Derived.LaidEqlPtr
namespace Go.Proofs.YtaglgokeejjagaaGreat
set_option linter.unusedVariables false
set_option linter.unusedSimpArgs false
open Go.RowKit Go.Sort Go.Shelf

theorem RT.shape' {m : Mem} {v : Value} {t : ST} (r : RT m v t) : ∃ T y, v = .iface T y := by cases r <;> exact ⟨_, _, rfl⟩
def SameP (v : Value) (w : World) (e : Ending) (w' : World) : Prop := e = .returned v ∧ w' = w
set_option maxHeartbeats 2000000 in
set_option maxRecDepth 100000 in
theorem unwrap_nil (w : World) : Calls Tryz.prog 67 #[.nilIface] w (SameP .nilIface w) := by
  go_enter Tryz.func67, Tryz.ntmps67
  go_wp2
  go_ret
  exact ⟨rfl, rfl⟩
set_option maxHeartbeats 2000000 in
set_option maxRecDepth 100000 in
theorem unwrap_any {m : Mem} {v : Value} {t : ST} (h : RT m v t) (w : World) : Calls Tryz.prog 67 #[v] w (SameP v w) := by
  cases h
  all_goals
    go_enter Tryz.func67, Tryz.ntmps67
    go_wp2
    go_ret
    exact ⟨rfl, rfl⟩
set_option maxHeartbeats 2000000 in
set_option maxRecDepth 100000 in
theorem unwrapR_any {m : Mem} {v : Value} {t : ST} (h : RT m v t) (w : World) : Calls Tryz.prog 66 #[v] w (SameP v w) := by
  cases h
  all_goals
    go_enter Tryz.func66, Tryz.ntmps66
    go_wp2
    go_ret
    exact ⟨rfl, rfl⟩
set_option maxHeartbeats 2000000 in
set_option maxRecDepth 100000 in
theorem order_any {m : Mem} {v : Value} {t : ST} (h : RT m v t) (w : World) : Calls Tryz.prog 90 #[v] w (SameP (.int .i64 (t.kind - 1)) w) := by
  have H1 := Lib.hid (unwrap_any h)
  have H2 := Lib.hid (unwrapR_any h)
  cases h
  all_goals
    go_enter Tryz.func90, Tryz.ntmps90
    go_wp2_with (first | (go_at_call 67; refine (H1.out _).mono ?_; rintro e w2 ⟨rfl, rfl⟩) | (go_at_call 66; refine (H2.out _).mono ?_; rintro e w2 ⟨rfl, rfl⟩))
    go_ret
    exact ⟨rfl, rfl⟩

def CmpQ (n : Int) (w : World) (e : Ending) (w' : World) : Prop := e = .returned (.int .i64 n) ∧ Gr w w'
set_option maxHeartbeats 4000000 in
set_option maxRecDepth 100000 in
theorem cmp_diff {m : Mem} {x y : Value} {s t : ST} (h : RT m x s) (h' : RT m y t) (hne : s.kind ≠ t.kind) (w : World) : Calls Tryz.prog 48 #[x, y] w (CmpQ (cmpT s t) w) := by
  have hs := h.nt.kind
  have ht := h'.nt.kind
  have H1 := Lib.hid (unwrap_any h)
  have H1' := Lib.hid (unwrap_any h')
  have H2 := Lib.hid (unwrapR_any h)
  have H2' := Lib.hid (unwrapR_any h')
  have H3 := Lib.hid (order_any h)
  have H3' := Lib.hid (order_any h')
  obtain ⟨T, u, rfl⟩ := h.shape'
  obtain ⟨T', u', rfl⟩ := h'.shape'
  have HC := Lib.hid (show cmpT s t = if s.kind < t.kind then -1 else 1 by
    by_cases hl : s.kind < t.kind
    · rw [if_pos hl, cmpT_lt (by omega)]
    · rw [if_neg hl, cmpT_gt (by omega)])
  clear h h'
  obtain ⟨a, ha⟩ : ∃ a, a = s.kind - 1 := ⟨_, rfl⟩
  obtain ⟨b, hb⟩ : ∃ b, b = t.kind - 1 := ⟨_, rfl⟩
  rw [← ha] at H3
  rw [← hb] at H3'
  by_cases hl : s.kind < t.kind
  · have HE := Lib.hid (show cmpT s t = -1 by rw [HC.out, if_pos hl])
    have d1 : decide (b < a) = false := by simp; omega
    have d2 : decide (a < b) = true := by simp; omega
    clear hl ha hb hne hs ht HC
    go_enter Tryz.func48, Tryz.ntmps48
    go_wp2_with (first | (go_at_call 67; first | (((with_reducible refine (H1.out _).mono ?_)); rintro e w2 ⟨rfl, rfl⟩) | (((with_reducible refine (H1'.out _).mono ?_)); rintro e w2 ⟨rfl, rfl⟩)) | (go_at_call 66; first | (((with_reducible refine (H2.out _).mono ?_)); rintro e w2 ⟨rfl, rfl⟩) | (((with_reducible refine (H2'.out _).mono ?_)); rintro e w2 ⟨rfl, rfl⟩)) | (go_at_call 90; first | (((with_reducible refine (H3.out _).mono ?_)); rintro e w2 ⟨rfl, rfl⟩) | (((with_reducible refine (H3'.out _).mono ?_)); rintro e w2 ⟨rfl, rfl⟩)))
    go_ret
    exact ⟨by rw [HE.out]; rfl, Gr.refl _⟩
  · have HE := Lib.hid (show cmpT s t = 1 by rw [HC.out, if_neg hl])
    have d1 : decide (b < a) = true := by simp; omega
    have d2 : decide (a < b) = false := by simp; omega
    clear hl ha hb hne hs ht HC
    go_enter Tryz.func48, Tryz.ntmps48
    go_wp2_with (first | (go_at_call 67; first | (((with_reducible refine (H1.out _).mono ?_)); rintro e w2 ⟨rfl, rfl⟩) | (((with_reducible refine (H1'.out _).mono ?_)); rintro e w2 ⟨rfl, rfl⟩)) | (go_at_call 66; first | (((with_reducible refine (H2.out _).mono ?_)); rintro e w2 ⟨rfl, rfl⟩) | (((with_reducible refine (H2'.out _).mono ?_)); rintro e w2 ⟨rfl, rfl⟩)) | (go_at_call 90; first | (((with_reducible refine (H3.out _).mono ?_)); rintro e w2 ⟨rfl, rfl⟩) | (((with_reducible refine (H3'.out _).mono ?_)); rintro e w2 ⟨rfl, rfl⟩)))
    go_ret
    exact ⟨by rw [HE.out]; rfl, Gr.refl _⟩

/-! ### A value in memory is one type -/
theorem rowX_get {m : Mem} {a : Option Addr} {xs : List Value} (h : RowX m a xs) {i : Nat} (hi : i < xs.length) : ∃ b off, a = some ⟨b, off, none⟩ ∧ m ⟨b, off + i, none⟩ = some xs[i] := by
  obtain ⟨b, off, e, hc⟩ := Row.at h hi
  have := hc 0 xs[i] (by rw [getD_eq _ _ hi]; rfl)
  rw [Nat.mul_one] at this
  exact ⟨b, off, e, this⟩
theorem rowX_inj {m : Mem} {a : Option Addr} {xs ys : List Value} (h : RowX m a xs) (h' : RowX m a ys) (hl : xs.length = ys.length) : xs = ys := by
  refine List.ext_getElem hl fun i h1 h2 => ?_
  obtain ⟨b, off, e, c⟩ := rowX_get h h1
  obtain ⟨b', off', e', c'⟩ := rowX_get h' h2
  rw [e] at e'; cases e'
  rw [c] at c'; exact Option.some.inj c'
theorem ptrs_inj {ps qs : List Nat} (h : (ps.map fun p => Value.pointer (some (⟨p, 0, none⟩ : Addr))) = qs.map fun p => Value.pointer (some (⟨p, 0, none⟩ : Addr))) : ps = qs := by
  have hl : ps.length = qs.length := by have := congrArg List.length h; simpa using this
  refine List.ext_getElem hl fun i h1 h2 => ?_
  have e : (ps.map fun p => Value.pointer (some (⟨p, 0, none⟩ : Addr)))[i]? = (qs.map fun p => Value.pointer (some (⟨p, 0, none⟩ : Addr)))[i]? := by rw [h]
  rw [List.getElem?_map, List.getElem?_map, List.getElem?_eq_getElem h1, List.getElem?_eq_getElem h2] at e
  simpa using e
theorem RT.inj {m : Mem} {v : Value} {s t : ST} (h : RT m v s) (h' : RT m v t) : s = t := by
  induction h generalizing t with
  | null => cases h'; rfl
  | bool => cases h'; rfl
  | num => cases h'; rfl
  | str => cases h'; rfl
  | @arr b c a xs ds kids more h0 h1 lk hl r e hd h2 e2 ih ih2 =>
    cases h' with
    | @arr b' c' a' xs' ds' kids' more' h0' h1' lk' hl' r' e' hd' h2' e2' =>
      have q0 := Option.some.inj (h0.symm.trans h0')
      injection q0 with qa ql qc
      subst qa
      have hxx := rowX_inj r r' (by omega)
      subst hxx
      have q1 := Option.some.inj (h1.symm.trans h1')
      have hk : kids = kids' := List.ext_getElem ql fun i g1 g2 => ih i (by omega) g1 (e' i (by omega) g2)
      have hdl : ds = ds' := by
        match ds, ds', more, more', hd, hd', h2, h2', e2, e2', q1 with
        | [], [], _, _, _, _, _, _, _, _, _ => rfl
        | [], d' :: _, _, _, hd, hd', h2, h2', e2, e2', q1 =>
          have : RT m d' _ := e2' 0 (by simp) (by rw [← hd']; simp)
          obtain ⟨T, y, e⟩ := this.shape'
          simp [e] at q1
        | d :: _, [], _, _, hd, hd', h2, h2', e2, e2', q1 =>
          have : RT m d _ := e2 0 (by simp) (by rw [← hd]; simp)
          obtain ⟨T, y, e⟩ := this.shape'
          simp [e] at q1
        | [d], [d'], _, _, hd, hd', h2, h2', e2, e2', q1 => simp at q1; rw [q1]
        | _ :: _ :: _, _, _, _, hd, _, h2, _, _, _, _ => simp at hd; omega
        | _, _ :: _ :: _, _, _, _, hd', _, h2', _, _, _ => simp at hd'; omega
      subst hdl
      have hm : more = more' := List.ext_getElem (by omega) fun i g1 g2 => ih2 i (by omega) g1 (e2' i (by omega) g2)
      rw [hk, hm]
  | @obj b c a ps xs ks kids dv ds more h0 h1 lk hp hx hk r e0 e1 e so hd e2 ih ih2 =>
    generalize hv : Value.iface 80 (.pointer (some ⟨b, 0, none⟩)) = v at h'
    cases h' with
    | @obj b' c' a' ps' xs' ks' kids' dv' ds' more' h0' h1' lk' hp' hx' hk' r' e0' e1' e' so' hd' e2' =>
      cases hv
      have q0 := Option.some.inj (h0.symm.trans h0')
      injection q0 with qa ql qc
      subst qa
      have hps := ptrs_inj (rowX_inj r r' (by simp; omega))
      subst hps
      have hkk : ks = ks' := List.ext_getElem (by omega) fun i g1 g2 => AK.v_inj (Option.some.inj ((e0 i (by omega) g1).symm.trans (e0' i (by omega) g2)))
      subst hkk
      have hxx : xs = xs' := List.ext_getElem (by omega) fun i g1 g2 => Option.some.inj ((e1 i (by omega) g1).symm.trans (e1' i (by omega) g2))
      subst hxx
      have hkd : kids = kids' := List.ext_getElem ql fun i g1 g2 => ih i (by omega) g1 (e' i (by omega) g2)
      subst hkd
      have q1 := Option.some.inj (h1.symm.trans h1')
      subst q1
      have hm : more = more' := by
        rcases hd with ⟨rfl, rfl⟩ | ⟨q, rfl, d1, d2, d3⟩
        · rcases hd' with ⟨_, rfl⟩ | ⟨q', e9, _⟩
          · rfl
          · cases e9
        · rcases hd' with ⟨e9, _⟩ | ⟨q', e9, d1', d2', d3'⟩
          · cases e9
          · cases e9
            have hds : ds = ds' := List.ext_getElem (by omega) fun i g1 g2 => Option.some.inj ((d3 i g1).symm.trans (d3' i g2))
            subst hds
            exact List.ext_getElem (by omega) fun i g1 g2 => ih2 i (by omega) g1 (e2' i (by omega) g2)
      subst hm
      rfl
    | _ => cases hv
  | @set b x t h0 e ih =>
    cases h' with
    | @set b' x' t' h0' e' =>
      have := Option.some.inj (h0.symm.trans h0')
      subst this
      rw [ih e']
  | @any c a xs kids lk hl r e ih =>
    generalize hv : Value.iface 110 (.slice a kids.length c) = v at h'
    cases h' with
    | @any c' a' xs' kids' lk' hl' r' e' =>
      injection hv with _ hv
      injection hv with qa ql qc
      subst qa
      have hxx := rowX_inj r r' (by omega)
      subst hxx
      have hk : kids = kids' := List.ext_getElem ql fun i g1 g2 => ih i (by omega) g1 (e' i (by omega) g2)
      rw [hk]
    | _ => cases hv
end Go.Proofs.YtaglgokeejjagaaGreat
/- 'Compare' at rows of types. -/
namespace Go.Proofs.YtaglgokeejjagaaGreat
set_option linter.unusedVariables false
set_option linter.unusedSimpArgs false
open Go.RowKit Go.Sort Go.Shelf

def CmpOk (s : ST) : Prop := ∀ (t : ST) (m : Mem) (x y : Value) (w : World), RT m x s → RT m y t → MLe m (ucell w) → Calls Tryz.prog 48 #[x, y] w (CmpQ (cmpT s t) w)

theorem cmpL_drop {l l' : List ST} {k : Nat} (h : k < l.length) (h' : k < l'.length) : cmpL (l.drop k) (l'.drop k) = if cmpT l[k] l'[k] = 0 then cmpL (l.drop (k + 1)) (l'.drop (k + 1)) else cmpT l[k] l'[k] := by
  rw [List.drop_eq_getElem_cons h, List.drop_eq_getElem_cons h', cmpL]
theorem cmpL_out {l l' : List ST} {k : Nat} (h : k < l.length) (h' : l'.length ≤ k) : cmpL (l.drop k) (l'.drop k) = 1 := by
  rw [List.drop_eq_getElem_cons h, List.drop_of_length_le h', cmpL]
theorem cmpL_end {l l' : List ST} {k : Nat} (h : l.length ≤ k) : cmpL (l.drop k) (l'.drop k) = if k < l'.length then -1 else 0 := by
  rw [List.drop_of_length_le h]
  by_cases h' : k < l'.length
  · rw [if_pos h', List.drop_eq_getElem_cons h', cmpL]
  · rw [if_neg h', List.drop_of_length_le (by omega), cmpL]

set_option maxHeartbeats 2000000 in
set_option maxRecDepth 100000 in
theorem cmpf_any {m : Mem} {w : World} {a a' : Option Addr} {c c' : Nat} {xs ys : List Value} {l l' : List ST} (IH : Hid (∀ k ∈ l, CmpOk k)) (lk : lenOk l.length c) (hl : xs.length = l.length) (r : RowX m a xs) (e : ∀ i (h1 : i < xs.length) (h2 : i < l.length), RT m xs[i] l[i])
    (lk' : lenOk l'.length c') (hl' : ys.length = l'.length) (r' : RowX m a' ys) (e' : ∀ i (h1 : i < ys.length) (h2 : i < l'.length), RT m ys[i] l'[i]) (hm : MLe m (ucell w)) :
    Calls Tryz.prog 91 #[.slice a l.length c, .slice a' l'.length c', .func (.func 48) #[] #[]] w (CmpQ (cmpL l l') w) := by
  obtain ⟨l1, l2⟩ := lk
  obtain ⟨l1', l2'⟩ := lk'
  have HR := Lib.hid r
  have HE := Lib.hid e
  have HL := Lib.hid hl
  have HR' := Lib.hid r'
  have HE' := Lib.hid e'
  have HL' := Lib.hid hl'
  have HM := Lib.hid hm
  clear r e hl r' e' hl' hm
  go_enter Tryz.func91, Tryz.ntmps91
  go_wp2
  go_loopw [13] (fun i wr => ∃ k : Nat, k ≤ l.length ∧ k ≤ l'.length ∧ i = .int .i64 k ∧ Hid (Gr w wr ∧ cmpL l l' = cmpL (l.drop k) (l'.drop k))) (fun i _ => l.length - (intOf i).toNat)
  case atStart => exact ⟨0, Nat.zero_le _, Nat.zero_le _, rfl, Gr.refl _, rfl⟩
  case round =>
    obtain ⟨k, hk, hk', rfl, hI⟩ := hrel
    by_cases hlt : k < l.length
    · by_cases hlt' : k < l'.length
      · have hkx : k < xs.length := by have := HL.out; omega
        have hky : k < ys.length := by have := HL'.out; omega
        obtain ⟨rb, off, ea, hx0⟩ := rowX_get HR.out hkx
        obtain ⟨rb', off', ea', hy0⟩ := rowX_get HR'.out hky
        subst ea ea'
        have hm1 := HM.out.trans (mleU hI.out.1.below)
        have z0 := ucell_le _ _ (hm1 _ _ hx0)
        have z1 := ucell_le _ _ (hm1 _ _ hy0)
        have HX := Lib.hid (HE.out k hkx hlt)
        have HY := Lib.hid (HE'.out k hky hlt')
        obtain ⟨T, u, hxs⟩ := HX.out.shape'
        obtain ⟨T', u', hys⟩ := HY.out.shape'
        rw [hxs] at z0
        rw [hys] at z1
        have HM1 := Lib.hid hm1
        have HD := Lib.hid (cmpL_drop hlt hlt')
        have HC := Lib.hid (fun (W : World) (h : MLe m (ucell W)) => show Calls Tryz.prog 48 #[.iface T u, .iface T' u'] W (CmpQ (cmpT l[k] l'[k]) W) from IH.out _ (List.getElem_mem hlt) _ m _ _ W (hxs ▸ HX.out) (hys ▸ HY.out) h)
        clear hxs hys hx0 hy0 hm1
        generalize cmpT l[k] l'[k] = n at HD HC
        go_wp2_with (go_at_call 48; refine (HC.out _ HM1.out).mono ?_; rintro e w2 ⟨rfl, hg⟩; have HG := Lib.hid hg; clear hg)
        · go_ret
          rename (n != 0) = true => hn0
          have hn : ¬ n = 0 := by simpa using hn0
          exact ⟨ret_int64 (by rw [hI.out.2, HD.out, if_neg hn]), hI.out.1.trans HG.out⟩
        · rename (n != 0) = false => hn0
          have HN := Lib.hid (show n = 0 by simpa using hn0)
          clear hn0
          go_roundw
          case rel => exact ⟨k + 1, by omega, by omega, by go_num, hI.out.1.trans HG.out, by rw [hI.out.2, HD.out, if_pos HN.out]⟩
          case measure => simp [intOf]; omega
      · have hkx : k < xs.length := by have := HL.out; omega
        obtain ⟨rb, off, ea, hx0⟩ := rowX_get HR.out hkx
        subst ea
        have hm1 := HM.out.trans (mleU hI.out.1.below)
        have z0 := ucell_le _ _ (hm1 _ _ hx0)
        have HX := Lib.hid (HE.out k hkx hlt)
        obtain ⟨T, u, hxs⟩ := HX.out.shape'
        rw [hxs] at z0
        have HD := Lib.hid (cmpL_out hlt (by omega : l'.length ≤ k))
        clear hxs hx0 hm1
        go_wp2
        go_ret
        exact ⟨ret_int64 (by rw [hI.out.2, HD.out]), hI.out.1⟩
    · obtain rfl : k = l.length := by omega
      have HD := Lib.hid (cmpL_end (l := l) (l' := l') (Nat.le_refl _))
      by_cases hlt' : l.length < l'.length
      · go_wp2
        go_ret
        exact ⟨ret_int64 (by rw [hI.out.2, HD.out, if_pos hlt']), hI.out.1⟩
      · go_wp2
        go_ret
        exact ⟨ret_int64 (by rw [hI.out.2, HD.out, if_neg hlt']), hI.out.1⟩
end Go.Proofs.YtaglgokeejjagaaGreat
/- 'Compare' at two types of one kind. -/
namespace Go.Proofs.YtaglgokeejjagaaGreat
set_option linter.unusedVariables false
set_option linter.unusedSimpArgs false
open Go.RowKit Go.Sort Go.Shelf

theorem mix_t : Tryz.prog.follows .mixedOrders = true := by kernel_rfl
theorem info151 : (Tryz.prog.info? 151).map (·.size) = some 2 := by kernel_rfl
theorem info154 : (Tryz.prog.info? 154).map (·.size) = some 2 := by kernel_rfl
theorem eql94_same (w : World) (b : Nat) : (binOp .eql 94 (.pointer (some ⟨b, 0, none⟩)) (.pointer (some ⟨b, 0, none⟩))).run Tryz.prog w = .ok (.bool true) w := by
  obtain ⟨j, hj, hjs⟩ := Option.map_eq_some_iff.1 info151
  exact run_eql_ptr_same w ⟨b, 0, none⟩ Tryz.underlying94 hj
theorem eql80_same (w : World) (b : Nat) : (binOp .eql 80 (.pointer (some ⟨b, 0, none⟩)) (.pointer (some ⟨b, 0, none⟩))).run Tryz.prog w = .ok (.bool true) w := by
  obtain ⟨j, hj, hjs⟩ := Option.map_eq_some_iff.1 info154
  exact run_eql_ptr_same w ⟨b, 0, none⟩ Tryz.underlying80 hj
theorem eql94_other {w : World} {b b' : Nat} {x x' : Value} (hne : ¬ b = b') (h : ucell w ⟨b, 0, none⟩ = some x) (h' : ucell w ⟨b', 0, none⟩ = some x') : (binOp .eql 94 (.pointer (some ⟨b, 0, none⟩)) (.pointer (some ⟨b', 0, none⟩))).run Tryz.prog w = .ok (.bool false) w := by
  obtain ⟨j, hj, hjs⟩ := Option.map_eq_some_iff.1 info151
  obtain ⟨_, _, g⟩ := ucell_heap h
  obtain ⟨_, _, g'⟩ := ucell_heap h'
  exact run_eql_ptr_other w Tryz.underlying94 hj (by rw [hjs]; decide) (fun e => hne (by cases e; rfl)) g g'
theorem eql80_other {w : World} {b b' : Nat} {x x' : Value} (hne : ¬ b = b') (h : ucell w ⟨b, 0, none⟩ = some x) (h' : ucell w ⟨b', 0, none⟩ = some x') : (binOp .eql 80 (.pointer (some ⟨b, 0, none⟩)) (.pointer (some ⟨b', 0, none⟩))).run Tryz.prog w = .ok (.bool false) w := by
  obtain ⟨j, hj, hjs⟩ := Option.map_eq_some_iff.1 info154
  obtain ⟨_, _, g⟩ := ucell_heap h
  obtain ⟨_, _, g'⟩ := ucell_heap h'
  exact run_eql_ptr_other w Tryz.underlying80 hj (by rw [hjs]; decide) (fun e => hne (by cases e; rfl)) g g'
set_option maxHeartbeats 2000000 in
set_option maxRecDepth 100000 in
theorem cmp_flat1 (w : World) : Calls Tryz.prog 48 #[.iface 90 (.agg #[]), .iface 90 (.agg #[])] w (CmpQ 0 w) := by
  have h : RT w.cell? (.iface 90 (.agg #[])) (.mk 1 [] [] []) := by constructor
  have h' := h
  have H1 := Lib.hid (unwrap_any h)
  have H1' := Lib.hid (unwrap_any h')
  have H2 := Lib.hid (unwrapR_any h)
  have H2' := Lib.hid (unwrapR_any h')
  have H3 := Lib.hid (fun W => show Calls _ _ _ W (SameP (.int .i64 0) W) from order_any h W)
  have H3' := Lib.hid (fun W => show Calls _ _ _ W (SameP (.int .i64 0) W) from order_any h' W)
  clear h h'
  go_enter Tryz.func48, Tryz.ntmps48
  go_wp2_with (first | (go_at_call 67; first | (((with_reducible refine (H1.out _).mono ?_)); rintro e w2 ⟨rfl, hww⟩; have hww := hww.symm; subst hww) | (((with_reducible refine (H1'.out _).mono ?_)); rintro e w2 ⟨rfl, hww⟩; have hww := hww.symm; subst hww)) | (go_at_call 66; first | (((with_reducible refine (H2.out _).mono ?_)); rintro e w2 ⟨rfl, hww⟩; have hww := hww.symm; subst hww) | (((with_reducible refine (H2'.out _).mono ?_)); rintro e w2 ⟨rfl, hww⟩; have hww := hww.symm; subst hww)) | (go_at_call 90; first | (((with_reducible refine (H3.out _).mono ?_)); rintro e w2 ⟨rfl, hww⟩; have hww := hww.symm; subst hww) | (((with_reducible refine (H3'.out _).mono ?_)); rintro e w2 ⟨rfl, hww⟩; have hww := hww.symm; subst hww)))
  go_ret
  exact ⟨rfl, Gr.refl _⟩
set_option maxHeartbeats 2000000 in
set_option maxRecDepth 100000 in
theorem cmp_flat2 (w : World) : Calls Tryz.prog 48 #[.iface 91 (.agg #[]), .iface 91 (.agg #[])] w (CmpQ 0 w) := by
  have h : RT w.cell? (.iface 91 (.agg #[])) (.mk 2 [] [] []) := by constructor
  have h' := h
  have H1 := Lib.hid (unwrap_any h)
  have H1' := Lib.hid (unwrap_any h')
  have H2 := Lib.hid (unwrapR_any h)
  have H2' := Lib.hid (unwrapR_any h')
  have H3 := Lib.hid (fun W => show Calls _ _ _ W (SameP (.int .i64 1) W) from order_any h W)
  have H3' := Lib.hid (fun W => show Calls _ _ _ W (SameP (.int .i64 1) W) from order_any h' W)
  clear h h'
  go_enter Tryz.func48, Tryz.ntmps48
  go_wp2_with (first | (go_at_call 67; first | (((with_reducible refine (H1.out _).mono ?_)); rintro e w2 ⟨rfl, hww⟩; have hww := hww.symm; subst hww) | (((with_reducible refine (H1'.out _).mono ?_)); rintro e w2 ⟨rfl, hww⟩; have hww := hww.symm; subst hww)) | (go_at_call 66; first | (((with_reducible refine (H2.out _).mono ?_)); rintro e w2 ⟨rfl, hww⟩; have hww := hww.symm; subst hww) | (((with_reducible refine (H2'.out _).mono ?_)); rintro e w2 ⟨rfl, hww⟩; have hww := hww.symm; subst hww)) | (go_at_call 90; first | (((with_reducible refine (H3.out _).mono ?_)); rintro e w2 ⟨rfl, hww⟩; have hww := hww.symm; subst hww) | (((with_reducible refine (H3'.out _).mono ?_)); rintro e w2 ⟨rfl, hww⟩; have hww := hww.symm; subst hww)))
  go_ret
  exact ⟨rfl, Gr.refl _⟩
set_option maxHeartbeats 2000000 in
set_option maxRecDepth 100000 in
theorem cmp_flat3 (w : World) : Calls Tryz.prog 48 #[.iface 92 (.agg #[]), .iface 92 (.agg #[])] w (CmpQ 0 w) := by
  have h : RT w.cell? (.iface 92 (.agg #[])) (.mk 3 [] [] []) := by constructor
  have h' := h
  have H1 := Lib.hid (unwrap_any h)
  have H1' := Lib.hid (unwrap_any h')
  have H2 := Lib.hid (unwrapR_any h)
  have H2' := Lib.hid (unwrapR_any h')
  have H3 := Lib.hid (fun W => show Calls _ _ _ W (SameP (.int .i64 2) W) from order_any h W)
  have H3' := Lib.hid (fun W => show Calls _ _ _ W (SameP (.int .i64 2) W) from order_any h' W)
  clear h h'
  go_enter Tryz.func48, Tryz.ntmps48
  go_wp2_with (first | (go_at_call 67; first | (((with_reducible refine (H1.out _).mono ?_)); rintro e w2 ⟨rfl, hww⟩; have hww := hww.symm; subst hww) | (((with_reducible refine (H1'.out _).mono ?_)); rintro e w2 ⟨rfl, hww⟩; have hww := hww.symm; subst hww)) | (go_at_call 66; first | (((with_reducible refine (H2.out _).mono ?_)); rintro e w2 ⟨rfl, hww⟩; have hww := hww.symm; subst hww) | (((with_reducible refine (H2'.out _).mono ?_)); rintro e w2 ⟨rfl, hww⟩; have hww := hww.symm; subst hww)) | (go_at_call 90; first | (((with_reducible refine (H3.out _).mono ?_)); rintro e w2 ⟨rfl, hww⟩; have hww := hww.symm; subst hww) | (((with_reducible refine (H3'.out _).mono ?_)); rintro e w2 ⟨rfl, hww⟩; have hww := hww.symm; subst hww)))
  go_ret
  exact ⟨rfl, Gr.refl _⟩
set_option maxHeartbeats 2000000 in
set_option maxRecDepth 100000 in
theorem cmp_flat4 (w : World) : Calls Tryz.prog 48 #[.iface 93 (.agg #[]), .iface 93 (.agg #[])] w (CmpQ 0 w) := by
  have h : RT w.cell? (.iface 93 (.agg #[])) (.mk 4 [] [] []) := by constructor
  have h' := h
  have H1 := Lib.hid (unwrap_any h)
  have H1' := Lib.hid (unwrap_any h')
  have H2 := Lib.hid (unwrapR_any h)
  have H2' := Lib.hid (unwrapR_any h')
  have H3 := Lib.hid (fun W => show Calls _ _ _ W (SameP (.int .i64 3) W) from order_any h W)
  have H3' := Lib.hid (fun W => show Calls _ _ _ W (SameP (.int .i64 3) W) from order_any h' W)
  clear h h'
  go_enter Tryz.func48, Tryz.ntmps48
  go_wp2_with (first | (go_at_call 67; first | (((with_reducible refine (H1.out _).mono ?_)); rintro e w2 ⟨rfl, hww⟩; have hww := hww.symm; subst hww) | (((with_reducible refine (H1'.out _).mono ?_)); rintro e w2 ⟨rfl, hww⟩; have hww := hww.symm; subst hww)) | (go_at_call 66; first | (((with_reducible refine (H2.out _).mono ?_)); rintro e w2 ⟨rfl, hww⟩; have hww := hww.symm; subst hww) | (((with_reducible refine (H2'.out _).mono ?_)); rintro e w2 ⟨rfl, hww⟩; have hww := hww.symm; subst hww)) | (go_at_call 90; first | (((with_reducible refine (H3.out _).mono ?_)); rintro e w2 ⟨rfl, hww⟩; have hww := hww.symm; subst hww) | (((with_reducible refine (H3'.out _).mono ?_)); rintro e w2 ⟨rfl, hww⟩; have hww := hww.symm; subst hww)))
  go_ret
  exact ⟨rfl, Gr.refl _⟩
set_option maxHeartbeats 4000000 in
set_option maxRecDepth 100000 in
theorem cmp_set {m : Mem} {w : World} {b b' : Nat} {u u' : Value} {s t : ST} (IH : Hid (CmpOk s)) (h0 : m ⟨b, 0, none⟩ = some u) (e : RT m u s) (h0' : m ⟨b', 0, none⟩ = some u') (e' : RT m u' t) (hm : MLe m (ucell w)) :
    Calls Tryz.prog 48 #[.iface 108 (.pointer (some ⟨b, 0, none⟩)), .iface 108 (.pointer (some ⟨b', 0, none⟩))] w (CmpQ (cmpT (.mk 7 [] [s] []) (.mk 7 [] [t] [])) w) := by
  have h : RT m _ _ := .set h0 e
  have h' : RT m _ _ := .set h0' e'
  rw [cmpT_set e.nt e'.nt]
  have H1 := Lib.hid (unwrap_any h)
  have H1' := Lib.hid (unwrap_any h')
  have H2 := Lib.hid (unwrapR_any h)
  have H2' := Lib.hid (unwrapR_any h')
  have H3 := Lib.hid (fun W => show Calls _ _ _ W (SameP (.int .i64 6) W) from order_any h W)
  have H3' := Lib.hid (fun W => show Calls _ _ _ W (SameP (.int .i64 6) W) from order_any h' W)
  have HC := Lib.hid (fun n os => show Calls Tryz.prog 48 #[u, u'] (grow (w.drewN n) os) (fun e w' => e = .returned (.int .i64 (cmpT s t)) ∧ Gr (grow (w.drewN n) os) w') from IH.out _ m _ _ _ e e' (hm.trans (mleU (gr_grow w n os).below)))
  obtain ⟨T, y, rfl⟩ := e.shape'
  obtain ⟨T', y', rfl⟩ := e'.shape'
  have c0 := ucell_le _ _ (hm _ _ h0)
  have c1 := ucell_le _ _ (hm _ _ h0')
  have A0 := fun n os => (gr_grow w n os).cell c0
  have B0 := fun n os => (gr_grow w n os).cell c1
  have hmix := mix_t
  clear h h' h0 h0' e e' hm
  generalize cmpT s t = n at HC ⊢
  go_enter Tryz.func48, Tryz.ntmps48
  go_wp2_with (first | (go_at_call 67; first | (((with_reducible refine (H1.out _).mono ?_)); rintro e w2 ⟨rfl, hww⟩; have hww := hww.symm; subst hww) | (((with_reducible refine (H1'.out _).mono ?_)); rintro e w2 ⟨rfl, hww⟩; have hww := hww.symm; subst hww)) | (go_at_call 66; first | (((with_reducible refine (H2.out _).mono ?_)); rintro e w2 ⟨rfl, hww⟩; have hww := hww.symm; subst hww) | (((with_reducible refine (H2'.out _).mono ?_)); rintro e w2 ⟨rfl, hww⟩; have hww := hww.symm; subst hww)) | (go_at_call 90; first | (((with_reducible refine (H3.out _).mono ?_)); rintro e w2 ⟨rfl, hww⟩; have hww := hww.symm; subst hww) | (((with_reducible refine (H3'.out _).mono ?_)); rintro e w2 ⟨rfl, hww⟩; have hww := hww.symm; subst hww)))
  refine wp_region_quiet_grown hmix (by kernel_rfl) ?_
  repeat (go_big_quiet_step ((go_at_call 48; with_reducible exact quiet_gr (v := .int .i64 n) (HC.out _ _))))
  refine wpQuiet_nil ?_
  intro _ hw'
  obtain ⟨⟨nq, osq⟩, hw''⟩ := hw'
  subst hw''
  go_wp2
  go_ret
  exact ⟨rfl, gr_grow _ _ _⟩
set_option maxHeartbeats 4000000 in
set_option maxRecDepth 100000 in
theorem cmp_any {m : Mem} {w : World} {a a' : Option Addr} {c c' : Nat} {xs ys : List Value} {l l' : List ST} (IH : Hid (∀ k ∈ l, CmpOk k)) (lk : lenOk l.length c) (hl : xs.length = l.length) (r : RowX m a xs) (e : ∀ i (h1 : i < xs.length) (h2 : i < l.length), RT m xs[i] l[i])
    (lk' : lenOk l'.length c') (hl' : ys.length = l'.length) (r' : RowX m a' ys) (e' : ∀ i (h1 : i < ys.length) (h2 : i < l'.length), RT m ys[i] l'[i]) (hm : MLe m (ucell w)) :
    Calls Tryz.prog 48 #[.iface 110 (.slice a l.length c), .iface 110 (.slice a' l'.length c')] w (CmpQ (cmpT (.mk 8 [] l []) (.mk 8 [] l' [])) w) := by
  have h : RT m _ _ := .any lk hl r e
  have h' : RT m _ _ := .any lk' hl' r' e'
  have hn : ∀ k ∈ l, NT k := mem_of_ih (m := m) hl (fun i h1 h2 => (e i h1 h2).nt)
  have hn' : ∀ k ∈ l', NT k := mem_of_ih (m := m) hl' (fun i h1 h2 => (e' i h1 h2).nt)
  rw [cmpT_any hn hn']
  have H1 := Lib.hid (unwrap_any h)
  have H1' := Lib.hid (unwrap_any h')
  have H2 := Lib.hid (unwrapR_any h)
  have H2' := Lib.hid (unwrapR_any h')
  have H3 := Lib.hid (fun W => show Calls _ _ _ W (SameP (.int .i64 7) W) from order_any h W)
  have H3' := Lib.hid (fun W => show Calls _ _ _ W (SameP (.int .i64 7) W) from order_any h' W)
  have HC := Lib.hid (fun n os => show Calls Tryz.prog 91 #[.slice a l.length c, .slice a' l'.length c', .func (.func 48) #[] #[]] (grow (w.drewN n) os) (fun e w' => e = .returned (.int .i64 (cmpL l l')) ∧ Gr (grow (w.drewN n) os) w') from cmpf_any IH lk hl r e lk' hl' r' e' (hm.trans (mleU (gr_grow w n os).below)))
  have hmix := mix_t
  clear h h' hn hn' e e' hm r r' hl hl' lk lk'
  generalize cmpL l l' = n at HC ⊢
  go_enter Tryz.func48, Tryz.ntmps48
  go_wp2_with (first | (go_at_call 67; first | (((with_reducible refine (H1.out _).mono ?_)); rintro e w2 ⟨rfl, hww⟩; have hww := hww.symm; subst hww) | (((with_reducible refine (H1'.out _).mono ?_)); rintro e w2 ⟨rfl, hww⟩; have hww := hww.symm; subst hww)) | (go_at_call 66; first | (((with_reducible refine (H2.out _).mono ?_)); rintro e w2 ⟨rfl, hww⟩; have hww := hww.symm; subst hww) | (((with_reducible refine (H2'.out _).mono ?_)); rintro e w2 ⟨rfl, hww⟩; have hww := hww.symm; subst hww)) | (go_at_call 90; first | (((with_reducible refine (H3.out _).mono ?_)); rintro e w2 ⟨rfl, hww⟩; have hww := hww.symm; subst hww) | (((with_reducible refine (H3'.out _).mono ?_)); rintro e w2 ⟨rfl, hww⟩; have hww := hww.symm; subst hww)))
  refine wp_region_quiet_grown hmix (by kernel_rfl) ?_
  repeat (go_big_quiet_step ((go_at_call 91; with_reducible exact quiet_gr (v := .int .i64 n) (HC.out _ _))))
  refine wpQuiet_nil ?_
  intro _ hw'
  obtain ⟨⟨nq, osq⟩, hw''⟩ := hw'
  subst hw''
  go_wp2
  go_ret
  exact ⟨rfl, gr_grow _ _ _⟩
end Go.Proofs.YtaglgokeejjagaaGreat
/- 'Compare' at two types of arrays. -/
namespace Go.Proofs.YtaglgokeejjagaaGreat
set_option linter.unusedVariables false
set_option linter.unusedSimpArgs false
open Go.RowKit Go.Sort Go.Shelf

set_option maxHeartbeats 8000000 in
set_option maxRecDepth 100000 in
theorem cmp_arr {m : Mem} {w : World} {b b' : Nat} {a a' : Option Addr} {c c' : Nat} {xs ys ds ds' : List Value} {l l' more more' : List ST} (IH : Hid (∀ k, k ∈ l ∨ k ∈ more → CmpOk k))
    (h0 : m ⟨b, 0, none⟩ = some (.slice a l.length c)) (h1 : m ⟨b, 1, none⟩ = some (ds.headD .nilIface)) (lk : lenOk l.length c) (hl : xs.length = l.length)
    (r : RowX m a xs) (e : ∀ i (h1 : i < xs.length) (h2 : i < l.length), RT m xs[i] l[i]) (hd : ds.length = more.length) (h2 : more.length ≤ 1) (e2 : ∀ i (h1 : i < ds.length) (h2 : i < more.length), RT m ds[i] more[i])
    (h0' : m ⟨b', 0, none⟩ = some (.slice a' l'.length c')) (h1' : m ⟨b', 1, none⟩ = some (ds'.headD .nilIface)) (lk' : lenOk l'.length c') (hl' : ys.length = l'.length)
    (r' : RowX m a' ys) (e' : ∀ i (h1 : i < ys.length) (h2 : i < l'.length), RT m ys[i] l'[i]) (hd' : ds'.length = more'.length) (h2' : more'.length ≤ 1) (e2' : ∀ i (h1 : i < ds'.length) (h2 : i < more'.length), RT m ds'[i] more'[i]) (hm : MLe m (ucell w)) :
    Calls Tryz.prog 48 #[.iface 94 (.pointer (some ⟨b, 0, none⟩)), .iface 94 (.pointer (some ⟨b', 0, none⟩))] w (CmpQ (cmpT (.mk 5 [] l more) (.mk 5 [] l' more')) w) := by
  have h : RT m _ _ := .arr h0 h1 lk hl r e hd h2 e2
  have h' : RT m _ _ := .arr h0' h1' lk' hl' r' e' hd' h2' e2'
  have H1 := Lib.hid (unwrap_any h)
  have H1' := Lib.hid (unwrap_any h')
  have H2 := Lib.hid (unwrapR_any h)
  have H2' := Lib.hid (unwrapR_any h')
  have H3 := Lib.hid (fun W => show Calls _ _ _ W (SameP (.int .i64 4) W) from order_any h W)
  have H3' := Lib.hid (fun W => show Calls _ _ _ W (SameP (.int .i64 4) W) from order_any h' W)
  by_cases hb : b = b'
  · subst hb
    rw [← h.inj h', cmpT_self]
    clear h h' h0 h1 lk hl r e hd h2 e2 h0' h1' lk' hl' r' e' hd' h2' e2' hm
    go_enter Tryz.func48, Tryz.ntmps48
    go_wp2_with (first | (go_at_call 67; first | (((with_reducible refine (H1.out _).mono ?_)); rintro e w2 ⟨rfl, hww⟩; have hww := hww.symm; subst hww) | (((with_reducible refine (H1'.out _).mono ?_)); rintro e w2 ⟨rfl, hww⟩; have hww := hww.symm; subst hww)) | (go_at_call 66; first | (((with_reducible refine (H2.out _).mono ?_)); rintro e w2 ⟨rfl, hww⟩; have hww := hww.symm; subst hww) | (((with_reducible refine (H2'.out _).mono ?_)); rintro e w2 ⟨rfl, hww⟩; have hww := hww.symm; subst hww)) | (go_at_call 90; first | (((with_reducible refine (H3.out _).mono ?_)); rintro e w2 ⟨rfl, hww⟩; have hww := hww.symm; subst hww) | (((with_reducible refine (H3'.out _).mono ?_)); rintro e w2 ⟨rfl, hww⟩; have hww := hww.symm; subst hww)))
    rw [eql94_same]
    go_wp2
    go_ret
    exact ⟨rfl, Gr.refl _⟩
  · have HCL := Lib.hid (fun W hW => cmpf_any (w := W) (Lib.hid fun k hk => IH.out k (.inl hk)) lk hl r e lk' hl' r' e' hW)
    rw [cmpT_arr h.nt h'.nt]
    have H0 := Lib.hid h0
    have H0' := Lib.hid h0'
    have HM := Lib.hid hm
    have HP := Lib.hid (eql94_other hb (hm _ _ h0) (hm _ _ h0'))
    have hmix := mix_t
    obtain ⟨n, hn⟩ : ∃ n, n = cmpL l l' := ⟨_, rfl⟩
    rw [← hn] at HCL
    match more, ds, hd, h2, e2, h1, more', ds', hd', h2', e2', h1', h, h' with
    | [], [], _, _, _, h1, [], [], _, _, _, h1', _, _ =>
      have HEQ := Lib.hid (show Ending.returned (.int .i64 n) = .returned (.int .i64 (cmpL l l')) by rw [hn])
      have q1 := ucell_le _ _ (hm _ _ h1)
      have q1' := ucell_le _ _ (hm _ _ h1')
      have c0 := ucell_le _ _ (hm _ _ h0)
      have c0' := ucell_le _ _ (hm _ _ h0')
      clear h0 h1 lk hl r e h0' h1' lk' hl' r' e' hm
      simp only [← hn]
      clear hn
      go_enter Tryz.func48, Tryz.ntmps48
      go_wp2_with (first | (go_at_call 67; first | (((with_reducible refine (H1.out _).mono ?_)); rintro e w2 ⟨rfl, hww⟩; have hww := hww.symm; subst hww) | (((with_reducible refine (H1'.out _).mono ?_)); rintro e w2 ⟨rfl, hww⟩; have hww := hww.symm; subst hww)) | (go_at_call 66; first | (((with_reducible refine (H2.out _).mono ?_)); rintro e w2 ⟨rfl, hww⟩; have hww := hww.symm; subst hww) | (((with_reducible refine (H2'.out _).mono ?_)); rintro e w2 ⟨rfl, hww⟩; have hww := hww.symm; subst hww)) | (go_at_call 90; first | (((with_reducible refine (H3.out _).mono ?_)); rintro e w2 ⟨rfl, hww⟩; have hww := hww.symm; subst hww) | (((with_reducible refine (H3'.out _).mono ?_)); rintro e w2 ⟨rfl, hww⟩; have hww := hww.symm; subst hww)))
      rw [HP.out]
      go_wp2
      have HG := Lib.hid (Gr.refl w)
      clear c0 c0'
      have c0 := HG.out.cell (ucell_le _ _ (HM.out _ _ H0.out))
      have c1 := HG.out.cell (ucell_le _ _ (HM.out _ _ H0'.out))
      have A0 := fun n os => (gr_grow w n os).cell c0
      have B0 := fun n os => (gr_grow w n os).cell c1
      have HC91 := Lib.hid (fun n0 os => show Calls Tryz.prog 91 #[.slice a l.length c, .slice a' l'.length c', .func (.func 48) #[] #[]] (grow (w.drewN n0) os) (fun e w' => e = .returned (.int .i64 n) ∧ Gr (grow (w.drewN n0) os) w') from HCL.out _ (HM.out.trans (mleU (HG.out.trans (gr_grow w n0 os)).below)))
      clear c0 c1
      refine wp_region_quiet_grown hmix (by kernel_rfl) ?_
      repeat (go_big_quiet_step ((go_at_call 91; with_reducible exact quiet_gr (v := .int .i64 n) (HC91.out _ _))))
      refine wpQuiet_nil ?_
      intro _ hw'
      obtain ⟨⟨nq, osq⟩, hw''⟩ := hw'
      subst hw''
      go_wp2
      go_ret
      exact ⟨ret_int64 (by first | rfl | exact HN.out), HG.out.trans (gr_grow _ _ _)⟩
    | [], [], _, _, _, h1, [d'], [dv'], _, _, e2', h1', _, _ =>
      obtain ⟨T, u, hs⟩ := (e2' 0 (by simp) (by simp)).shape'
      have q1 := ucell_le _ _ (hm _ _ h1)
      have q1' := ucell_le _ _ (hm _ _ h1')
      simp only [List.headD_cons, List.getElem_cons_zero] at hs q1'
      rw [hs] at q1'
      clear h0 h1 lk hl r e h0' h1' lk' hl' r' e' hm hs e2'
      go_enter Tryz.func48, Tryz.ntmps48
      go_wp2_with (first | (go_at_call 67; first | (((with_reducible refine (H1.out _).mono ?_)); rintro e w2 ⟨rfl, hww⟩; have hww := hww.symm; subst hww) | (((with_reducible refine (H1'.out _).mono ?_)); rintro e w2 ⟨rfl, hww⟩; have hww := hww.symm; subst hww)) | (go_at_call 66; first | (((with_reducible refine (H2.out _).mono ?_)); rintro e w2 ⟨rfl, hww⟩; have hww := hww.symm; subst hww) | (((with_reducible refine (H2'.out _).mono ?_)); rintro e w2 ⟨rfl, hww⟩; have hww := hww.symm; subst hww)) | (go_at_call 90; first | (((with_reducible refine (H3.out _).mono ?_)); rintro e w2 ⟨rfl, hww⟩; have hww := hww.symm; subst hww) | (((with_reducible refine (H3'.out _).mono ?_)); rintro e w2 ⟨rfl, hww⟩; have hww := hww.symm; subst hww)))
      rw [HP.out]
      go_wp2
      go_ret
      exact ⟨rfl, Gr.refl _⟩
    | [d], [dv], _, _, e2, h1, [], [], _, _, _, h1', _, _ =>
      obtain ⟨T, u, hs⟩ := (e2 0 (by simp) (by simp)).shape'
      have q1 := ucell_le _ _ (hm _ _ h1)
      have q1' := ucell_le _ _ (hm _ _ h1')
      simp only [List.headD_cons, List.getElem_cons_zero] at hs q1
      rw [hs] at q1
      clear h0 h1 lk hl r e h0' h1' lk' hl' r' e' hm hs e2
      go_enter Tryz.func48, Tryz.ntmps48
      go_wp2_with (first | (go_at_call 67; first | (((with_reducible refine (H1.out _).mono ?_)); rintro e w2 ⟨rfl, hww⟩; have hww := hww.symm; subst hww) | (((with_reducible refine (H1'.out _).mono ?_)); rintro e w2 ⟨rfl, hww⟩; have hww := hww.symm; subst hww)) | (go_at_call 66; first | (((with_reducible refine (H2.out _).mono ?_)); rintro e w2 ⟨rfl, hww⟩; have hww := hww.symm; subst hww) | (((with_reducible refine (H2'.out _).mono ?_)); rintro e w2 ⟨rfl, hww⟩; have hww := hww.symm; subst hww)) | (go_at_call 90; first | (((with_reducible refine (H3.out _).mono ?_)); rintro e w2 ⟨rfl, hww⟩; have hww := hww.symm; subst hww) | (((with_reducible refine (H3'.out _).mono ?_)); rintro e w2 ⟨rfl, hww⟩; have hww := hww.symm; subst hww)))
      rw [HP.out]
      go_wp2
      go_ret
      exact ⟨rfl, Gr.refl _⟩
    | [d], [dv], _, _, e2, h1, [d'], [dv'], _, _, e2', h1', _, _ =>
      have f0 : RT m dv d := e2 0 (by simp) (by simp)
      have f0' : RT m dv' d' := e2' 0 (by simp) (by simp)
      have HC48 := Lib.hid (fun n os => show Calls Tryz.prog 48 #[dv, dv'] (grow (w.drewN n) os) (fun e w' => e = .returned (.int .i64 (cmpT d d')) ∧ Gr (grow (w.drewN n) os) w') from IH.out d (.inr (by simp)) _ m _ _ _ f0 f0' (hm.trans (mleU (gr_grow w n os).below)))
      obtain ⟨T, u, hs⟩ := f0.shape'
      obtain ⟨T', u', hs'⟩ := f0'.shape'
      have q1 := ucell_le _ _ (hm _ _ h1)
      have q1' := ucell_le _ _ (hm _ _ h1')
      simp only [List.headD_cons] at q1 q1'
      rw [hs] at q1 HC48
      rw [hs'] at q1' HC48
      have A0 := fun n os => (gr_grow w n os).cell q1
      have B0 := fun n os => (gr_grow w n os).cell q1'
      simp only [← hn]
      obtain ⟨N, hN⟩ : ∃ N, N = (if cmpT d d' = 0 then n else cmpT d d') := ⟨_, rfl⟩
      rw [← hN]
      have HEQ0 := Lib.hid hN
      clear h0 h1 lk hl r e h0' h1' lk' hl' r' e' hm hs hs' e2 e2' f0 f0' hn hN
      generalize cmpT d d' = n0 at HC48 HEQ0
      go_enter Tryz.func48, Tryz.ntmps48
      go_wp2_with (first | (go_at_call 67; first | (((with_reducible refine (H1.out _).mono ?_)); rintro e w2 ⟨rfl, hww⟩; have hww := hww.symm; subst hww) | (((with_reducible refine (H1'.out _).mono ?_)); rintro e w2 ⟨rfl, hww⟩; have hww := hww.symm; subst hww)) | (go_at_call 66; first | (((with_reducible refine (H2.out _).mono ?_)); rintro e w2 ⟨rfl, hww⟩; have hww := hww.symm; subst hww) | (((with_reducible refine (H2'.out _).mono ?_)); rintro e w2 ⟨rfl, hww⟩; have hww := hww.symm; subst hww)) | (go_at_call 90; first | (((with_reducible refine (H3.out _).mono ?_)); rintro e w2 ⟨rfl, hww⟩; have hww := hww.symm; subst hww) | (((with_reducible refine (H3'.out _).mono ?_)); rintro e w2 ⟨rfl, hww⟩; have hww := hww.symm; subst hww)))
      rw [HP.out]
      go_wp2
      refine wp_region_quiet_grown hmix (by kernel_rfl) ?_
      repeat (go_big_quiet_step ((go_at_call 48; with_reducible exact quiet_gr (v := .int .i64 n0) (HC48.out _ _))))
      refine wpQuiet_nil ?_
      intro _ hw'
      obtain ⟨⟨nq, osq⟩, hw''⟩ := hw'
      subst hw''
      have HG := Lib.hid (gr_grow w nq osq)
      clear A0 B0 q1 q1' HC48
      generalize grow (w.drewN nq) osq = w1 at HG ⊢
      by_cases hz : n0 = 0
      · have hz1 : (n0 != 0) = false := by simp [hz]
        have HN := Lib.hid (show n = N by rw [HEQ0.out, if_pos hz])
        clear hz
        go_wp2
        have c0 := HG.out.cell (ucell_le _ _ (HM.out _ _ H0.out))
        have c1 := HG.out.cell (ucell_le _ _ (HM.out _ _ H0'.out))
        have A0 := fun n os => (gr_grow w1 n os).cell c0
        have B0 := fun n os => (gr_grow w1 n os).cell c1
        have HC91 := Lib.hid (fun n0 os => show Calls Tryz.prog 91 #[.slice a l.length c, .slice a' l'.length c', .func (.func 48) #[] #[]] (grow (w1.drewN n0) os) (fun e w' => e = .returned (.int .i64 n) ∧ Gr (grow (w1.drewN n0) os) w') from HCL.out _ (HM.out.trans (mleU (HG.out.trans (gr_grow w1 n0 os)).below)))
        clear c0 c1
        refine wp_region_quiet_grown hmix (by kernel_rfl) ?_
        repeat (go_big_quiet_step ((go_at_call 91; with_reducible exact quiet_gr (v := .int .i64 n) (HC91.out _ _))))
        refine wpQuiet_nil ?_
        intro _ hw'
        obtain ⟨⟨nq, osq⟩, hw''⟩ := hw'
        subst hw''
        go_wp2
        go_ret
        exact ⟨ret_int64 (by first | rfl | exact HN.out), HG.out.trans (gr_grow _ _ _)⟩
      · have hz1 : (n0 != 0) = true := by simpa using hz
        have HN := Lib.hid (show n0 = N by rw [HEQ0.out, if_neg hz])
        clear hz
        go_wp2
        go_ret
        exact ⟨ret_int64 HN.out, HG.out⟩
    | _ :: _ :: _, _, _, h2, _, _, _, _, _, _, _, _, _, _ => simp at h2
    | _, _, _, _, _, _, _ :: _ :: _, _, _, h2', _, _, _, _ => simp at h2'
    | [], _ :: _, hd, _, _, _, _, _, _, _, _, _, _, _ => simp at hd
    | [_], [], hd, _, _, _, _, _, _, _, _, _, _, _ => simp at hd
    | [_], _ :: _ :: _, hd, _, _, _, _, _, _, _, _, _, _, _ => simp at hd
    | _, _, _, _, _, _, [], _ :: _, hd', _, _, _, _, _ => simp at hd'
    | _, _, _, _, _, _, [_], [], hd', _, _, _, _, _ => simp at hd'
    | _, _, _, _, _, _, [_], _ :: _ :: _, hd', _, _, _, _, _ => simp at hd'
end Go.Proofs.YtaglgokeejjagaaGreat
/- 'Compare' at two types of objects. -/
namespace Go.Proofs.YtaglgokeejjagaaGreat
set_option linter.unusedVariables false
set_option linter.unusedSimpArgs false
open Go.RowKit Go.Sort Go.Shelf

theorem cmpP_drop {ks ks' : List AK} {l l' : List ST} {k : Nat} (hk : k < ks.length) (h : k < l.length) (hk' : k < ks'.length) (h' : k < l'.length) : cmpP (ks.drop k) (l.drop k) (ks'.drop k) (l'.drop k) =
    if (ks[k].cmp ks'[k]) = 0 then (if cmpT l[k] l'[k] = 0 then cmpP (ks.drop (k + 1)) (l.drop (k + 1)) (ks'.drop (k + 1)) (l'.drop (k + 1)) else cmpT l[k] l'[k]) else ks[k].cmp ks'[k] := by
  rw [List.drop_eq_getElem_cons h, List.drop_eq_getElem_cons h', List.drop_eq_getElem_cons hk, List.drop_eq_getElem_cons hk', cmpP]
theorem cmpP_end {ks ks' : List AK} {l l' : List ST} {k : Nat} (hk : ks.length = l.length) (hk' : ks'.length = l'.length) (h : k ≤ l.length) (h2 : k ≤ l'.length) (h3 : l.length ≤ k ∨ l'.length ≤ k) : cmpP (ks.drop k) (l.drop k) (ks'.drop k) (l'.drop k) = if l.length < l'.length then -1 else if l'.length < l.length then 1 else 0 := by
  rcases Nat.lt_trichotomy l.length l'.length with h4 | h4 | h4
  · rw [if_pos h4, List.drop_of_length_le (show l.length ≤ k by omega), List.drop_of_length_le (show ks.length ≤ k by omega), List.drop_eq_getElem_cons (show k < ks'.length by omega), cmpP]
  · rw [if_neg (by omega), if_neg (by omega), List.drop_of_length_le (show l.length ≤ k by omega), List.drop_of_length_le (show ks.length ≤ k by omega), List.drop_of_length_le (show ks'.length ≤ k by omega), List.drop_of_length_le (show l'.length ≤ k by omega)]
    rfl
  · rw [if_neg (by omega), if_pos h4, List.drop_of_length_le (show l'.length ≤ k by omega), List.drop_of_length_le (show ks'.length ≤ k by omega), List.drop_eq_getElem_cons (show k < ks.length by omega)]
    cases l.drop k <;> rfl
theorem cmpT_o00 {ks ks' : List AK} {l l' : List ST} (h : NT (.mk 6 (ks.map kyOf) l [])) (h' : NT (.mk 6 (ks'.map kyOf) l' [])) (hk : ks.length = l.length) (hk' : ks'.length = l'.length) : cmpT (.mk 6 (ks.map kyOf) l []) (.mk 6 (ks'.map kyOf) l' []) = cmpP ks l ks' l' := cmpT_obj h h' hk hk'
theorem cmpT_o02 {ks ks' : List AK} {l l' : List ST} {d e : ST} (h : NT (.mk 6 (ks.map kyOf) l [])) (h' : NT (.mk 6 (ks'.map kyOf) l' [d, e])) (hk : ks.length = l.length) (hk' : ks'.length = l'.length) : cmpT (.mk 6 (ks.map kyOf) l []) (.mk 6 (ks'.map kyOf) l' [d, e]) = -1 := cmpT_obj h h' hk hk'
theorem cmpT_o20 {ks ks' : List AK} {l l' : List ST} {d e : ST} (h : NT (.mk 6 (ks.map kyOf) l [d, e])) (h' : NT (.mk 6 (ks'.map kyOf) l' [])) (hk : ks.length = l.length) (hk' : ks'.length = l'.length) : cmpT (.mk 6 (ks.map kyOf) l [d, e]) (.mk 6 (ks'.map kyOf) l' []) = 1 := cmpT_obj h h' hk hk'
theorem cmpT_o22 {ks ks' : List AK} {l l' : List ST} {d e d' e' : ST} (h : NT (.mk 6 (ks.map kyOf) l [d, e])) (h' : NT (.mk 6 (ks'.map kyOf) l' [d', e'])) (hk : ks.length = l.length) (hk' : ks'.length = l'.length) :
    cmpT (.mk 6 (ks.map kyOf) l [d, e]) (.mk 6 (ks'.map kyOf) l' [d', e']) = if cmpT d d' = 0 then (if cmpT e e' = 0 then cmpP ks l ks' l' else cmpT e e') else cmpT d d' := cmpT_obj h h' hk hk'
theorem zz_any (a b : AK) (w : World) : Calls Tryz.prog 92 #[a.v, b.v] w (fun e w' => e = .returned (.int .i64 (a.cmp b)) ∧ Gr w w') := (zzCompare_any a b w).mono fun e w' h => ⟨h.1, h.2 ▸ Gr.refl _⟩

set_option maxHeartbeats 8000000 in
set_option maxRecDepth 100000 in
theorem cmp_obj {m : Mem} {w : World} {b c : Nat} {a : Option Addr} {ps : List Nat} {xs : List Value} {ks : List AK} {l : List ST} {dv : Value} {ds : List Value} {more : List ST} {b' c' : Nat} {a' : Option Addr} {ps' : List Nat} {xs' : List Value} {ks' : List AK} {l' : List ST} {dv' : Value} {ds' : List Value} {more' : List ST} (IH : Hid (∀ k, k ∈ l ∨ k ∈ more → CmpOk k))
    (h0 : m ⟨b, 0, none⟩ = some (.slice a l.length c)) (h1 : m ⟨b, 1, none⟩ = some dv) (lk : lenOk l.length c) (hp : ps.length = l.length) (hx : xs.length = l.length) (hk : ks.length = l.length)
    (r : RowX m a (ps.map fun p => .pointer (some ⟨p, 0, none⟩))) (e0 : ∀ i (h : i < ps.length) (h1 : i < ks.length), m ⟨ps[i], 0, none⟩ = some ks[i].v) (e1 : ∀ i (h : i < ps.length) (h1 : i < xs.length), m ⟨ps[i], 1, none⟩ = some xs[i])
    (e : ∀ i (h1 : i < xs.length) (h2 : i < l.length), RT m xs[i] l[i]) (so : ks.Pairwise AK.lt) (hd : dv = .pointer none ∧ more = [] ∨ ∃ q, dv = .pointer (some ⟨q, 0, none⟩) ∧ ds.length = 2 ∧ more.length = 2 ∧ ∀ i (h : i < ds.length), m ⟨q, i, none⟩ = some ds[i])
    (e2 : ∀ i (h1 : i < ds.length) (h2 : i < more.length), RT m ds[i] more[i])
    (h0' : m ⟨b', 0, none⟩ = some (.slice a' l'.length c')) (h1' : m ⟨b', 1, none⟩ = some dv') (lk' : lenOk l'.length c') (hp' : ps'.length = l'.length) (hx' : xs'.length = l'.length) (hk' : ks'.length = l'.length)
    (r' : RowX m a' (ps'.map fun p => .pointer (some ⟨p, 0, none⟩))) (e0' : ∀ i (h : i < ps'.length) (h1 : i < ks'.length), m ⟨ps'[i], 0, none⟩ = some ks'[i].v) (e1' : ∀ i (h : i < ps'.length) (h1 : i < xs'.length), m ⟨ps'[i], 1, none⟩ = some xs'[i])
    (e' : ∀ i (h1 : i < xs'.length) (h2 : i < l'.length), RT m xs'[i] l'[i]) (so' : ks'.Pairwise AK.lt) (hd' : dv' = .pointer none ∧ more' = [] ∨ ∃ q, dv' = .pointer (some ⟨q, 0, none⟩) ∧ ds'.length = 2 ∧ more'.length = 2 ∧ ∀ i (h : i < ds'.length), m ⟨q, i, none⟩ = some ds'[i])
    (e2' : ∀ i (h1 : i < ds'.length) (h2 : i < more'.length), RT m ds'[i] more'[i])
    (hm : MLe m (ucell w)) :
    Calls Tryz.prog 48 #[.iface 80 (.pointer (some ⟨b, 0, none⟩)), .iface 80 (.pointer (some ⟨b', 0, none⟩))] w (CmpQ (cmpT (.mk 6 (ks.map kyOf) l more) (.mk 6 (ks'.map kyOf) l' more')) w) := by
  have h : RT m _ _ := .obj h0 h1 lk hp hx hk r e0 e1 e so hd e2
  have h' : RT m _ _ := .obj h0' h1' lk' hp' hx' hk' r' e0' e1' e' so' hd' e2'
  have H1 := Lib.hid (unwrap_any h)
  have H1' := Lib.hid (unwrap_any h')
  have H2 := Lib.hid (unwrapR_any h)
  have H2' := Lib.hid (unwrapR_any h')
  have H3 := Lib.hid (fun W => show Calls _ _ _ W (SameP (.int .i64 5) W) from order_any h W)
  have H3' := Lib.hid (fun W => show Calls _ _ _ W (SameP (.int .i64 5) W) from order_any h' W)
  by_cases hb : b = b'
  · subst hb
    rw [← h.inj h', cmpT_self]
    clear h h' h0 h1 lk hp hx hk r e0 e1 e so hd e2 h0' h1' lk' hp' hx' hk' r' e0' e1' e' so' hd' e2' hm
    go_enter Tryz.func48, Tryz.ntmps48
    go_wp2_with (first | (go_at_call 67; first | (((with_reducible refine (H1.out _).mono ?_)); rintro e w2 ⟨rfl, hww⟩; have hww := hww.symm; subst hww) | (((with_reducible refine (H1'.out _).mono ?_)); rintro e w2 ⟨rfl, hww⟩; have hww := hww.symm; subst hww)) | (go_at_call 66; first | (((with_reducible refine (H2.out _).mono ?_)); rintro e w2 ⟨rfl, hww⟩; have hww := hww.symm; subst hww) | (((with_reducible refine (H2'.out _).mono ?_)); rintro e w2 ⟨rfl, hww⟩; have hww := hww.symm; subst hww)) | (go_at_call 90; first | (((with_reducible refine (H3.out _).mono ?_)); rintro e w2 ⟨rfl, hww⟩; have hww := hww.symm; subst hww) | (((with_reducible refine (H3'.out _).mono ?_)); rintro e w2 ⟨rfl, hww⟩; have hww := hww.symm; subst hww)))
    rw [eql80_same]
    go_wp2
    go_ret
    exact ⟨rfl, Gr.refl _⟩
  · have H0 := Lib.hid h0
    have H0' := Lib.hid h0'
    have HM := Lib.hid hm
    have HP := Lib.hid (eql80_other hb (hm _ _ h0) (hm _ _ h0'))
    have HR := Lib.hid r
    have HR' := Lib.hid r'
    have HE0 := Lib.hid e0
    have HE0' := Lib.hid e0'
    have HE1 := Lib.hid e1
    have HE1' := Lib.hid e1'
    have HE := Lib.hid e
    have HE' := Lib.hid e'
    have HL := Lib.hid (And.intro hp (And.intro hx hk))
    have HL' := Lib.hid (And.intro hp' (And.intro hx' hk'))
    have hmix := mix_t
    have q1 := ucell_le _ _ (hm _ _ h1)
    have q1' := ucell_le _ _ (hm _ _ h1')
    have q0 := ucell_le _ _ (hm _ _ h0)
    have q0' := ucell_le _ _ (hm _ _ h0')
    obtain ⟨l1, l2⟩ := lk
    obtain ⟨l1', l2'⟩ := lk'
    have hnt := h.nt
    have hnt' := h'.nt
    clear h h' h0 h0' h1 h1' r r' e0 e0' e1 e1' e e' so so' hp hp' hx hx'
    rcases hd with ⟨rfl, rfl⟩ | ⟨q, rfl, hd1, hd2, hd3⟩
    · rcases hd' with ⟨rfl, rfl⟩ | ⟨q', rfl, hd1', hd2', hd3'⟩
      · have HG := Lib.hid (Gr.refl w)
        rw [cmpT_o00 hnt hnt' hk hk']
        obtain ⟨N, hN⟩ : ∃ N, N = cmpP ks l ks' l' := ⟨_, rfl⟩
        rw [← hN]
        have HN := Lib.hid hN
        clear hN e2 e2' hm q0 q0' hnt hnt' hk hk'
        go_enter Tryz.func48, Tryz.ntmps48
        go_wp2_with (first | (go_at_call 67; first | (((with_reducible refine (H1.out _).mono ?_)); rintro e w2 ⟨rfl, hww⟩; have hww := hww.symm; subst hww) | (((with_reducible refine (H1'.out _).mono ?_)); rintro e w2 ⟨rfl, hww⟩; have hww := hww.symm; subst hww)) | (go_at_call 66; first | (((with_reducible refine (H2.out _).mono ?_)); rintro e w2 ⟨rfl, hww⟩; have hww := hww.symm; subst hww) | (((with_reducible refine (H2'.out _).mono ?_)); rintro e w2 ⟨rfl, hww⟩; have hww := hww.symm; subst hww)) | (go_at_call 90; first | (((with_reducible refine (H3.out _).mono ?_)); rintro e w2 ⟨rfl, hww⟩; have hww := hww.symm; subst hww) | (((with_reducible refine (H3'.out _).mono ?_)); rintro e w2 ⟨rfl, hww⟩; have hww := hww.symm; subst hww)))
        rw [HP.out]
        have c0 := HG.out.cell (ucell_le _ _ (HM.out _ _ H0.out))
        have c1 := HG.out.cell (ucell_le _ _ (HM.out _ _ H0'.out))
        obtain ⟨mn, hmn⟩ : ∃ mn : Nat, min (l'.length : Int) (l.length : Int) = (mn : Int) := ⟨min l'.length l.length, by omega⟩
        have HMN := Lib.hid (show mn ≤ l.length ∧ mn ≤ l'.length ∧ (l.length ≤ mn ∨ l'.length ≤ mn) by omega)
        go_wp2
        clear hmn c0 c1
        go_loopw [225] (fun i wr => ∃ k : Nat, k ≤ mn ∧ i = .int .i64 k ∧ Hid (Gr w wr ∧ cmpP (ks.drop k) (l.drop k) (ks'.drop k) (l'.drop k) = N)) (fun i _ => mn - (intOf i).toNat)
        case atStart => exact ⟨0, Nat.zero_le _, rfl, HG.out, HN.out.symm⟩
        case round =>
          obtain ⟨k, hk, rfl, hI⟩ := hrel
          by_cases hlt : k < mn
          · have hl1 : k < l.length := by have := HMN.out; omega
            have hl1' : k < l'.length := by have := HMN.out; omega
            have hps : k < ps.length := by have := HL.out; omega
            have hps' : k < ps'.length := by have := HL'.out; omega
            have hks : k < ks.length := by have := HL.out; omega
            have hks' : k < ks'.length := by have := HL'.out; omega
            have hxs : k < xs.length := by have := HL.out; omega
            have hxs' : k < xs'.length := by have := HL'.out; omega
            have HD := Lib.hid (cmpP_drop hks hl1 hks' hl1')
            obtain ⟨rb, off, ea, hp0⟩ := rowX_get HR.out (by simpa using hps : k < (ps.map fun p => Value.pointer (some ⟨p, 0, none⟩)).length)
            obtain ⟨rb', off', ea', hp1⟩ := rowX_get HR'.out (by simpa using hps' : k < (ps'.map fun p => Value.pointer (some ⟨p, 0, none⟩)).length)
            rw [List.getElem_map] at hp0 hp1
            subst ea ea'
            have HP0 := Lib.hid hp0
            have HP1 := Lib.hid hp1
            have HK0 := Lib.hid (HE0.out k hps hks)
            have HK1 := Lib.hid (HE0'.out k hps' hks')
            have hx0 := HE1.out k hps hxs
            have hx1 := HE1'.out k hps' hxs'
            have f0 := HE.out k hxs hl1
            have f1 := HE'.out k hxs' hl1'
            obtain ⟨T, u, hs⟩ := f0.shape'
            obtain ⟨T', u', hs'⟩ := f1.shape'
            rw [hs] at hx0 f0
            rw [hs'] at hx1 f1
            have HX0 := Lib.hid hx0
            have HX1 := Lib.hid hx1
            have HCC := Lib.hid (fun W hW => IH.out l[k] (.inl (List.getElem_mem hl1)) l'[k] m _ _ W f0 f1 hW)
            have HZZ := Lib.hid (fun W => zz_any ks[k] ks'[k] W)
            clear hp0 hp1 hx0 hx1 hs hs' f0 f1
            generalize ks[k].cmp ks'[k] = n1 at HD HZZ
            generalize cmpT l[k] l'[k] = n2 at HD HCC
            generalize ks[k].v = kv at HK0 HZZ
            generalize ks'[k].v = kv' at HK1 HZZ
            generalize ps[k] = p at HP0 HK0 HX0
            generalize ps'[k] = p' at HP1 HK1 HX1
            clear hps hps' hks hks' hxs hxs'
            have HC92 := Lib.hid (fun n os => show Calls Tryz.prog 92 #[kv, kv'] (grow (wr.drewN n) os) (fun e w' => e = .returned (.int .i64 n1) ∧ Gr (grow (wr.drewN n) os) w') from HZZ.out _)
            have HGW := Lib.hid hI.out.1
            have db0 := fun n os => (gr_grow wr n os).cell (HGW.out.cell (ucell_le _ _ (HM.out _ _ H0.out)))
            have db1 := fun n os => (gr_grow wr n os).cell (HGW.out.cell (ucell_le _ _ (HM.out _ _ H0'.out)))
            have dp0 := fun n os => (gr_grow wr n os).cell (HGW.out.cell (ucell_le _ _ (HM.out _ _ HP0.out)))
            have dp1 := fun n os => (gr_grow wr n os).cell (HGW.out.cell (ucell_le _ _ (HM.out _ _ HP1.out)))
            have dk0 := fun n os => (gr_grow wr n os).cell (HGW.out.cell (ucell_le _ _ (HM.out _ _ HK0.out)))
            have dk1 := fun n os => (gr_grow wr n os).cell (HGW.out.cell (ucell_le _ _ (HM.out _ _ HK1.out)))
            have dx0 := fun n os => (gr_grow wr n os).cell (HGW.out.cell (ucell_le _ _ (HM.out _ _ HX0.out)))
            have dx1 := fun n os => (gr_grow wr n os).cell (HGW.out.cell (ucell_le _ _ (HM.out _ _ HX1.out)))
            go_wp2
            refine wp_region_quiet_grown hmix (by kernel_rfl) ?_
            repeat (go_big_quiet_step ((go_at_call 92; with_reducible exact quiet_gr (v := .int .i64 n1) (HC92.out _ _))))
            refine wpQuiet_nil ?_
            intro _ hw'
            obtain ⟨⟨nq, osq⟩, hw''⟩ := hw'
            subst hw''
            have HG2 := Lib.hid (HGW.out.trans (gr_grow wr nq osq))
            clear db0 db1 dp0 dp1 dk0 dk1 dx0 dx1 HGW HC92 HZZ
            generalize grow (wr.drewN nq) osq = w2 at HG2 ⊢
            by_cases hz : n1 = 0
            · have hz1 : (n1 != 0) = false := by simp [hz]
              have hz0 : ¬ n1 ≠ 0 := by simp [hz]
              have HN1 := Lib.hid hz
              have HGW := Lib.hid HG2.out
              clear hz
              have gb0 := fun n os => (gr_grow w2 n os).cell (HGW.out.cell (ucell_le _ _ (HM.out _ _ H0.out)))
              have gb1 := fun n os => (gr_grow w2 n os).cell (HGW.out.cell (ucell_le _ _ (HM.out _ _ H0'.out)))
              have gp0 := fun n os => (gr_grow w2 n os).cell (HGW.out.cell (ucell_le _ _ (HM.out _ _ HP0.out)))
              have gp1 := fun n os => (gr_grow w2 n os).cell (HGW.out.cell (ucell_le _ _ (HM.out _ _ HP1.out)))
              have gk0 := fun n os => (gr_grow w2 n os).cell (HGW.out.cell (ucell_le _ _ (HM.out _ _ HK0.out)))
              have gk1 := fun n os => (gr_grow w2 n os).cell (HGW.out.cell (ucell_le _ _ (HM.out _ _ HK1.out)))
              have gx0 := fun n os => (gr_grow w2 n os).cell (HGW.out.cell (ucell_le _ _ (HM.out _ _ HX0.out)))
              have gx1 := fun n os => (gr_grow w2 n os).cell (HGW.out.cell (ucell_le _ _ (HM.out _ _ HX1.out)))
              have HC48 := Lib.hid (fun n os => show Calls Tryz.prog 48 #[.iface T u, .iface T' u'] (grow (w2.drewN n) os) (fun e w' => e = .returned (.int .i64 n2) ∧ Gr (grow (w2.drewN n) os) w') from HCC.out _ (HM.out.trans (mleU (HG2.out.trans (gr_grow w2 n os)).below)))
              go_wp2
              refine wp_region_quiet_grown hmix (by kernel_rfl) ?_
              repeat (go_big_quiet_step ((go_at_call 48; with_reducible exact quiet_gr (v := .int .i64 n2) (HC48.out _ _))))
              refine wpQuiet_nil ?_
              intro _ hw'
              obtain ⟨⟨nq, osq⟩, hw''⟩ := hw'
              subst hw''
              have HG3 := Lib.hid (HG2.out.trans (gr_grow w2 nq osq))
              clear gb0 gb1 gp0 gp1 gk0 gk1 gx0 gx1 HC48 HCC HGW hz0 hz1
              generalize grow (w2.drewN nq) osq = w3 at HG3 ⊢
              by_cases hz : n2 = 0
              · have hz1 : (n2 != 0) = false := by simp [hz]
                have HN2 := Lib.hid hz
                clear hz
                go_wp2
                go_roundw
                case rel => exact ⟨k + 1, by omega, by go_num, HG3.out, by rw [← hI.out.2, HD.out, if_pos HN1.out, if_pos HN2.out]⟩
                case measure => simp [intOf]; omega
              · have hz1 : (n2 != 0) = true := by simpa using hz
                have HN2 := Lib.hid (show n2 = N by rw [← hI.out.2, HD.out, if_pos HN1.out, if_neg hz])
                clear hz
                go_wp2
                go_ret
                exact ⟨ret_int64 HN2.out, HG3.out⟩
            · have hz1 : (n1 != 0) = true := by simpa using hz
              have HN1 := Lib.hid (show n1 = N by rw [← hI.out.2, HD.out, if_neg hz])
              clear hz
              go_wp2
              go_ret
              exact ⟨ret_int64 HN1.out, HG2.out⟩
          · obtain rfl : k = mn := by omega
            have HD := Lib.hid (show (if l.length < l'.length then (-1 : Int) else if l'.length < l.length then 1 else 0) = N by
              rw [← hI.out.2, cmpP_end (by have := HL.out; omega) (by have := HL'.out; omega) HMN.out.1 HMN.out.2.1 HMN.out.2.2])
            have HGF := Lib.hid hI.out.1
            clear hI
            by_cases g1 : l.length < l'.length
            · have HD2 := Lib.hid (show (-1 : Int) = N by rw [← HD.out, if_pos g1])
              go_wp2
              go_ret
              exact ⟨ret_int64 HD2.out, HGF.out⟩
            · by_cases g2 : l'.length < l.length
              · have HD2 := Lib.hid (show (1 : Int) = N by rw [← HD.out, if_neg g1, if_pos g2])
                go_wp2
                go_ret
                exact ⟨ret_int64 HD2.out, HGF.out⟩
              · have HD2 := Lib.hid (show (0 : Int) = N by rw [← HD.out, if_neg g1, if_neg g2])
                go_wp2
                go_ret
                exact ⟨ret_int64 HD2.out, HGF.out⟩
      · match more', hd2' with
        | [d1, d2], _ =>
          rw [cmpT_o02 hnt hnt' hk hk']
          clear e2 e2' hd3' hm hnt hnt' hk hk'
          go_enter Tryz.func48, Tryz.ntmps48
          go_wp2_with (first | (go_at_call 67; first | (((with_reducible refine (H1.out _).mono ?_)); rintro e w2 ⟨rfl, hww⟩; have hww := hww.symm; subst hww) | (((with_reducible refine (H1'.out _).mono ?_)); rintro e w2 ⟨rfl, hww⟩; have hww := hww.symm; subst hww)) | (go_at_call 66; first | (((with_reducible refine (H2.out _).mono ?_)); rintro e w2 ⟨rfl, hww⟩; have hww := hww.symm; subst hww) | (((with_reducible refine (H2'.out _).mono ?_)); rintro e w2 ⟨rfl, hww⟩; have hww := hww.symm; subst hww)) | (go_at_call 90; first | (((with_reducible refine (H3.out _).mono ?_)); rintro e w2 ⟨rfl, hww⟩; have hww := hww.symm; subst hww) | (((with_reducible refine (H3'.out _).mono ?_)); rintro e w2 ⟨rfl, hww⟩; have hww := hww.symm; subst hww)))
          rw [HP.out]
          go_wp2
          go_ret
          exact ⟨rfl, Gr.refl _⟩
    · rcases hd' with ⟨rfl, rfl⟩ | ⟨q', rfl, hd1', hd2', hd3'⟩
      · match more, hd2 with
        | [d1, d2], _ =>
          rw [cmpT_o20 hnt hnt' hk hk']
          clear e2 e2' hd3 hm hnt hnt' hk hk'
          go_enter Tryz.func48, Tryz.ntmps48
          go_wp2_with (first | (go_at_call 67; first | (((with_reducible refine (H1.out _).mono ?_)); rintro e w2 ⟨rfl, hww⟩; have hww := hww.symm; subst hww) | (((with_reducible refine (H1'.out _).mono ?_)); rintro e w2 ⟨rfl, hww⟩; have hww := hww.symm; subst hww)) | (go_at_call 66; first | (((with_reducible refine (H2.out _).mono ?_)); rintro e w2 ⟨rfl, hww⟩; have hww := hww.symm; subst hww) | (((with_reducible refine (H2'.out _).mono ?_)); rintro e w2 ⟨rfl, hww⟩; have hww := hww.symm; subst hww)) | (go_at_call 90; first | (((with_reducible refine (H3.out _).mono ?_)); rintro e w2 ⟨rfl, hww⟩; have hww := hww.symm; subst hww) | (((with_reducible refine (H3'.out _).mono ?_)); rintro e w2 ⟨rfl, hww⟩; have hww := hww.symm; subst hww)))
          rw [HP.out]
          go_wp2
          go_ret
          exact ⟨rfl, Gr.refl _⟩
      · match more, hd2, ds, hd1, e2, hd3, more', hd2', ds', hd1', e2', hd3' with
        | [d1, d2], _, [y1, y2], _, e2, hd3, [d1', d2'], _, [y1', y2'], _, e2', hd3' =>
          rw [cmpT_o22 hnt hnt' hk hk']
          obtain ⟨N, hN⟩ : ∃ N, N = (if cmpT d1 d1' = 0 then (if cmpT d2 d2' = 0 then cmpP ks l ks' l' else cmpT d2 d2') else cmpT d1 d1') := ⟨_, rfl⟩
          rw [← hN]
          have HN0 := Lib.hid hN
          have f1 : RT m y1 d1 := e2 0 (by simp) (by simp)
          have f2 : RT m y2 d2 := e2 1 (by simp) (by simp)
          have f1' : RT m y1' d1' := e2' 0 (by simp) (by simp)
          have f2' : RT m y2' d2' := e2' 1 (by simp) (by simp)
          have z1 : m ⟨q, 0, none⟩ = some y1 := hd3 0 (by simp)
          have z2 : m ⟨q, 1, none⟩ = some y2 := hd3 1 (by simp)
          have z1' : m ⟨q', 0, none⟩ = some y1' := hd3' 0 (by simp)
          have z2' : m ⟨q', 1, none⟩ = some y2' := hd3' 1 (by simp)
          obtain ⟨T1, u1, s1⟩ := f1.shape'
          obtain ⟨T2, u2, s2⟩ := f2.shape'
          obtain ⟨T1', u1', s1'⟩ := f1'.shape'
          obtain ⟨T2', u2', s2'⟩ := f2'.shape'
          rw [s1] at z1 f1; rw [s2] at z2 f2; rw [s1'] at z1' f1'; rw [s2'] at z2' f2'
          have HZ1 := Lib.hid z1
          have HZ2 := Lib.hid z2
          have HZ1' := Lib.hid z1'
          have HZ2' := Lib.hid z2'
          have HQ := Lib.hid q1
          have HQ' := Lib.hid q1'
          have HCC1 := Lib.hid (fun W hW => IH.out d1 (.inr (by simp)) d1' m _ _ W f1 f1' hW)
          have HCC2 := Lib.hid (fun W hW => IH.out d2 (.inr (by simp)) d2' m _ _ W f2 f2' hW)
          clear hN e2 e2' hd3 hd3' hm hnt hnt' hk hk' f1 f2 f1' f2' z1 z2 z1' z2' s1 s2 s1' s2'
          generalize cmpT d1 d1' = n1 at HN0 HCC1
          generalize cmpT d2 d2' = n2 at HN0 HCC2
          have HCa := Lib.hid (fun n os => show Calls Tryz.prog 48 #[.iface T1 u1, .iface T1' u1'] (grow (w.drewN n) os) (fun e w' => e = .returned (.int .i64 n1) ∧ Gr (grow (w.drewN n) os) w') from HCC1.out _ (HM.out.trans (mleU (gr_grow w n os).below)))
          have A0 := fun n os => (gr_grow w n os).cell q1
          have A1 := fun n os => (gr_grow w n os).cell q1'
          have A2 := fun n os => (gr_grow w n os).cell (ucell_le _ _ (HM.out _ _ HZ1.out))
          have A3 := fun n os => (gr_grow w n os).cell (ucell_le _ _ (HM.out _ _ HZ1'.out))
          go_enter Tryz.func48, Tryz.ntmps48
          go_wp2_with (first | (go_at_call 67; first | (((with_reducible refine (H1.out _).mono ?_)); rintro e w2 ⟨rfl, hww⟩; have hww := hww.symm; subst hww) | (((with_reducible refine (H1'.out _).mono ?_)); rintro e w2 ⟨rfl, hww⟩; have hww := hww.symm; subst hww)) | (go_at_call 66; first | (((with_reducible refine (H2.out _).mono ?_)); rintro e w2 ⟨rfl, hww⟩; have hww := hww.symm; subst hww) | (((with_reducible refine (H2'.out _).mono ?_)); rintro e w2 ⟨rfl, hww⟩; have hww := hww.symm; subst hww)) | (go_at_call 90; first | (((with_reducible refine (H3.out _).mono ?_)); rintro e w2 ⟨rfl, hww⟩; have hww := hww.symm; subst hww) | (((with_reducible refine (H3'.out _).mono ?_)); rintro e w2 ⟨rfl, hww⟩; have hww := hww.symm; subst hww)))
          rw [HP.out]
          go_wp2
          refine wp_region_quiet_grown hmix (by kernel_rfl) ?_
          repeat (go_big_quiet_step ((go_at_call 48; with_reducible exact quiet_gr (v := .int .i64 n1) (HCa.out _ _))))
          refine wpQuiet_nil ?_
          intro _ hw'
          obtain ⟨⟨nq, osq⟩, hw''⟩ := hw'
          subst hw''
          have HG1 := Lib.hid (gr_grow w nq osq)
          clear A0 A1 A2 A3 q0 q0' q1 q1' HCa HCC1
          generalize grow (w.drewN nq) osq = w1 at HG1 ⊢
          by_cases hz : n1 = 0
          · have hz1 : (n1 != 0) = false := by simp [hz]
            have HN1 := Lib.hid hz
            clear hz
            have HCa := Lib.hid (fun n os => show Calls Tryz.prog 48 #[.iface T2 u2, .iface T2' u2'] (grow (w1.drewN n) os) (fun e w' => e = .returned (.int .i64 n2) ∧ Gr (grow (w1.drewN n) os) w') from HCC2.out _ (HM.out.trans (mleU (HG1.out.trans (gr_grow w1 n os)).below)))
            have A0 := fun n os => (gr_grow w1 n os).cell (HG1.out.cell HQ.out)
            have A1 := fun n os => (gr_grow w1 n os).cell (HG1.out.cell HQ'.out)
            have A2 := fun n os => (gr_grow w1 n os).cell (HG1.out.cell (ucell_le _ _ (HM.out _ _ HZ2.out)))
            have A3 := fun n os => (gr_grow w1 n os).cell (HG1.out.cell (ucell_le _ _ (HM.out _ _ HZ2'.out)))
            go_wp2
            refine wp_region_quiet_grown hmix (by kernel_rfl) ?_
            repeat (go_big_quiet_step ((go_at_call 48; with_reducible exact quiet_gr (v := .int .i64 n2) (HCa.out _ _))))
            refine wpQuiet_nil ?_
            intro _ hw'
            obtain ⟨⟨nq, osq⟩, hw''⟩ := hw'
            subst hw''
            have HG := Lib.hid (HG1.out.trans (gr_grow w1 nq osq))
            clear A0 A1 A2 A3 HCa HCC2 hz1
            generalize grow (w1.drewN nq) osq = w4 at HG ⊢
            by_cases hz : n2 = 0
            · have hz1 : (n2 != 0) = false := by simp [hz]
              have HN := Lib.hid (show N = cmpP ks l ks' l' by rw [HN0.out, if_pos HN1.out, if_pos hz])
              clear hz HN0 HN1
              have c0 := HG.out.cell (ucell_le _ _ (HM.out _ _ H0.out))
              have c1 := HG.out.cell (ucell_le _ _ (HM.out _ _ H0'.out))
              obtain ⟨mn, hmn⟩ : ∃ mn : Nat, min (l'.length : Int) (l.length : Int) = (mn : Int) := ⟨min l'.length l.length, by omega⟩
              have HMN := Lib.hid (show mn ≤ l.length ∧ mn ≤ l'.length ∧ (l.length ≤ mn ∨ l'.length ≤ mn) by omega)
              go_wp2
              clear hmn c0 c1
              go_loopw [225] (fun i wr => ∃ k : Nat, k ≤ mn ∧ i = .int .i64 k ∧ Hid (Gr w wr ∧ cmpP (ks.drop k) (l.drop k) (ks'.drop k) (l'.drop k) = N)) (fun i _ => mn - (intOf i).toNat)
              case atStart => exact ⟨0, Nat.zero_le _, rfl, HG.out, HN.out.symm⟩
              case round =>
                obtain ⟨k, hk, rfl, hI⟩ := hrel
                by_cases hlt : k < mn
                · have hl1 : k < l.length := by have := HMN.out; omega
                  have hl1' : k < l'.length := by have := HMN.out; omega
                  have hps : k < ps.length := by have := HL.out; omega
                  have hps' : k < ps'.length := by have := HL'.out; omega
                  have hks : k < ks.length := by have := HL.out; omega
                  have hks' : k < ks'.length := by have := HL'.out; omega
                  have hxs : k < xs.length := by have := HL.out; omega
                  have hxs' : k < xs'.length := by have := HL'.out; omega
                  have HD := Lib.hid (cmpP_drop hks hl1 hks' hl1')
                  obtain ⟨rb, off, ea, hp0⟩ := rowX_get HR.out (by simpa using hps : k < (ps.map fun p => Value.pointer (some ⟨p, 0, none⟩)).length)
                  obtain ⟨rb', off', ea', hp1⟩ := rowX_get HR'.out (by simpa using hps' : k < (ps'.map fun p => Value.pointer (some ⟨p, 0, none⟩)).length)
                  rw [List.getElem_map] at hp0 hp1
                  subst ea ea'
                  have HP0 := Lib.hid hp0
                  have HP1 := Lib.hid hp1
                  have HK0 := Lib.hid (HE0.out k hps hks)
                  have HK1 := Lib.hid (HE0'.out k hps' hks')
                  have hx0 := HE1.out k hps hxs
                  have hx1 := HE1'.out k hps' hxs'
                  have f0 := HE.out k hxs hl1
                  have f1 := HE'.out k hxs' hl1'
                  obtain ⟨T, u, hs⟩ := f0.shape'
                  obtain ⟨T', u', hs'⟩ := f1.shape'
                  rw [hs] at hx0 f0
                  rw [hs'] at hx1 f1
                  have HX0 := Lib.hid hx0
                  have HX1 := Lib.hid hx1
                  have HCC := Lib.hid (fun W hW => IH.out l[k] (.inl (List.getElem_mem hl1)) l'[k] m _ _ W f0 f1 hW)
                  have HZZ := Lib.hid (fun W => zz_any ks[k] ks'[k] W)
                  clear hp0 hp1 hx0 hx1 hs hs' f0 f1
                  generalize ks[k].cmp ks'[k] = n1 at HD HZZ
                  generalize cmpT l[k] l'[k] = n2 at HD HCC
                  generalize ks[k].v = kv at HK0 HZZ
                  generalize ks'[k].v = kv' at HK1 HZZ
                  generalize ps[k] = p at HP0 HK0 HX0
                  generalize ps'[k] = p' at HP1 HK1 HX1
                  clear hps hps' hks hks' hxs hxs'
                  have HC92 := Lib.hid (fun n os => show Calls Tryz.prog 92 #[kv, kv'] (grow (wr.drewN n) os) (fun e w' => e = .returned (.int .i64 n1) ∧ Gr (grow (wr.drewN n) os) w') from HZZ.out _)
                  have HGW := Lib.hid hI.out.1
                  have db0 := fun n os => (gr_grow wr n os).cell (HGW.out.cell (ucell_le _ _ (HM.out _ _ H0.out)))
                  have db1 := fun n os => (gr_grow wr n os).cell (HGW.out.cell (ucell_le _ _ (HM.out _ _ H0'.out)))
                  have dp0 := fun n os => (gr_grow wr n os).cell (HGW.out.cell (ucell_le _ _ (HM.out _ _ HP0.out)))
                  have dp1 := fun n os => (gr_grow wr n os).cell (HGW.out.cell (ucell_le _ _ (HM.out _ _ HP1.out)))
                  have dk0 := fun n os => (gr_grow wr n os).cell (HGW.out.cell (ucell_le _ _ (HM.out _ _ HK0.out)))
                  have dk1 := fun n os => (gr_grow wr n os).cell (HGW.out.cell (ucell_le _ _ (HM.out _ _ HK1.out)))
                  have dx0 := fun n os => (gr_grow wr n os).cell (HGW.out.cell (ucell_le _ _ (HM.out _ _ HX0.out)))
                  have dx1 := fun n os => (gr_grow wr n os).cell (HGW.out.cell (ucell_le _ _ (HM.out _ _ HX1.out)))
                  go_wp2
                  refine wp_region_quiet_grown hmix (by kernel_rfl) ?_
                  repeat (go_big_quiet_step ((go_at_call 92; with_reducible exact quiet_gr (v := .int .i64 n1) (HC92.out _ _))))
                  refine wpQuiet_nil ?_
                  intro _ hw'
                  obtain ⟨⟨nq, osq⟩, hw''⟩ := hw'
                  subst hw''
                  have HG2 := Lib.hid (HGW.out.trans (gr_grow wr nq osq))
                  clear db0 db1 dp0 dp1 dk0 dk1 dx0 dx1 HGW HC92 HZZ
                  generalize grow (wr.drewN nq) osq = w2 at HG2 ⊢
                  by_cases hz : n1 = 0
                  · have hz1 : (n1 != 0) = false := by simp [hz]
                    have hz0 : ¬ n1 ≠ 0 := by simp [hz]
                    have HN1 := Lib.hid hz
                    have HGW := Lib.hid HG2.out
                    clear hz
                    have gb0 := fun n os => (gr_grow w2 n os).cell (HGW.out.cell (ucell_le _ _ (HM.out _ _ H0.out)))
                    have gb1 := fun n os => (gr_grow w2 n os).cell (HGW.out.cell (ucell_le _ _ (HM.out _ _ H0'.out)))
                    have gp0 := fun n os => (gr_grow w2 n os).cell (HGW.out.cell (ucell_le _ _ (HM.out _ _ HP0.out)))
                    have gp1 := fun n os => (gr_grow w2 n os).cell (HGW.out.cell (ucell_le _ _ (HM.out _ _ HP1.out)))
                    have gk0 := fun n os => (gr_grow w2 n os).cell (HGW.out.cell (ucell_le _ _ (HM.out _ _ HK0.out)))
                    have gk1 := fun n os => (gr_grow w2 n os).cell (HGW.out.cell (ucell_le _ _ (HM.out _ _ HK1.out)))
                    have gx0 := fun n os => (gr_grow w2 n os).cell (HGW.out.cell (ucell_le _ _ (HM.out _ _ HX0.out)))
                    have gx1 := fun n os => (gr_grow w2 n os).cell (HGW.out.cell (ucell_le _ _ (HM.out _ _ HX1.out)))
                    have HC48 := Lib.hid (fun n os => show Calls Tryz.prog 48 #[.iface T u, .iface T' u'] (grow (w2.drewN n) os) (fun e w' => e = .returned (.int .i64 n2) ∧ Gr (grow (w2.drewN n) os) w') from HCC.out _ (HM.out.trans (mleU (HG2.out.trans (gr_grow w2 n os)).below)))
                    go_wp2
                    refine wp_region_quiet_grown hmix (by kernel_rfl) ?_
                    repeat (go_big_quiet_step ((go_at_call 48; with_reducible exact quiet_gr (v := .int .i64 n2) (HC48.out _ _))))
                    refine wpQuiet_nil ?_
                    intro _ hw'
                    obtain ⟨⟨nq, osq⟩, hw''⟩ := hw'
                    subst hw''
                    have HG3 := Lib.hid (HG2.out.trans (gr_grow w2 nq osq))
                    clear gb0 gb1 gp0 gp1 gk0 gk1 gx0 gx1 HC48 HCC HGW hz0 hz1
                    generalize grow (w2.drewN nq) osq = w3 at HG3 ⊢
                    by_cases hz : n2 = 0
                    · have hz1 : (n2 != 0) = false := by simp [hz]
                      have HN2 := Lib.hid hz
                      clear hz
                      go_wp2
                      go_roundw
                      case rel => exact ⟨k + 1, by omega, by go_num, HG3.out, by rw [← hI.out.2, HD.out, if_pos HN1.out, if_pos HN2.out]⟩
                      case measure => simp [intOf]; omega
                    · have hz1 : (n2 != 0) = true := by simpa using hz
                      have HN2 := Lib.hid (show n2 = N by rw [← hI.out.2, HD.out, if_pos HN1.out, if_neg hz])
                      clear hz
                      go_wp2
                      go_ret
                      exact ⟨ret_int64 HN2.out, HG3.out⟩
                  · have hz1 : (n1 != 0) = true := by simpa using hz
                    have HN1 := Lib.hid (show n1 = N by rw [← hI.out.2, HD.out, if_neg hz])
                    clear hz
                    go_wp2
                    go_ret
                    exact ⟨ret_int64 HN1.out, HG2.out⟩
                · obtain rfl : k = mn := by omega
                  have HD := Lib.hid (show (if l.length < l'.length then (-1 : Int) else if l'.length < l.length then 1 else 0) = N by
                    rw [← hI.out.2, cmpP_end (by have := HL.out; omega) (by have := HL'.out; omega) HMN.out.1 HMN.out.2.1 HMN.out.2.2])
                  have HGF := Lib.hid hI.out.1
                  clear hI
                  by_cases g1 : l.length < l'.length
                  · have HD2 := Lib.hid (show (-1 : Int) = N by rw [← HD.out, if_pos g1])
                    go_wp2
                    go_ret
                    exact ⟨ret_int64 HD2.out, HGF.out⟩
                  · by_cases g2 : l'.length < l.length
                    · have HD2 := Lib.hid (show (1 : Int) = N by rw [← HD.out, if_neg g1, if_pos g2])
                      go_wp2
                      go_ret
                      exact ⟨ret_int64 HD2.out, HGF.out⟩
                    · have HD2 := Lib.hid (show (0 : Int) = N by rw [← HD.out, if_neg g1, if_neg g2])
                      go_wp2
                      go_ret
                      exact ⟨ret_int64 HD2.out, HGF.out⟩
            · have hz1 : (n2 != 0) = true := by simpa using hz
              have HN2 := Lib.hid (show n2 = N by rw [HN0.out, if_pos HN1.out, if_neg hz])
              clear hz
              go_wp2
              go_ret
              exact ⟨ret_int64 HN2.out, HG.out⟩
          · have hz1 : (n1 != 0) = true := by simpa using hz
            have HN1 := Lib.hid (show n1 = N by rw [HN0.out, if_neg hz])
            clear hz
            go_wp2
            go_ret
            exact ⟨ret_int64 HN1.out, HG1.out⟩

theorem cmp_n (n : Nat) : ∀ s, SizeOf.sizeOf s < n → CmpOk s := by
  induction n with
  | zero => intro s h; exact absurd h (Nat.not_lt_zero _)
  | succ n ih =>
    intro s hn t m x y w hx hy hm
    by_cases hk : s.kind = t.kind
    · have IH := Lib.hid (fun k (hk : k ∈ s.kids ∨ k ∈ s.more) => ih k (by rcases hk with h | h; exact Nat.lt_of_lt_of_le (ST.lt_kid' h) (Nat.le_of_lt_succ hn); exact Nat.lt_of_lt_of_le (ST.lt_more' h) (Nat.le_of_lt_succ hn)))
      cases hx with
      | null => cases hy <;> first | (rw [cmpT_self]; exact cmp_flat1 w) | exact absurd hk (by simp [ST.kind])
      | bool => cases hy <;> first | (rw [cmpT_self]; exact cmp_flat2 w) | exact absurd hk (by simp [ST.kind])
      | num => cases hy <;> first | (rw [cmpT_self]; exact cmp_flat3 w) | exact absurd hk (by simp [ST.kind])
      | str => cases hy <;> first | (rw [cmpT_self]; exact cmp_flat4 w) | exact absurd hk (by simp [ST.kind])
      | arr h0 h1 lk hl r e hd h2 e2 =>
        cases hy with
        | arr h0' h1' lk' hl' r' e' hd' h2' e2' => exact cmp_arr IH h0 h1 lk hl r e hd h2 e2 h0' h1' lk' hl' r' e' hd' h2' e2' hm
        | _ => exact absurd hk (by simp [ST.kind])
      | obj h0 h1 lk hp hx hkx r e0 e1 e so hd e2 =>
        cases hy with
        | obj h0' h1' lk' hp' hx' hk' r' e0' e1' e' so' hd' e2' => exact cmp_obj IH h0 h1 lk hp hx hkx r e0 e1 e so hd e2 h0' h1' lk' hp' hx' hk' r' e0' e1' e' so' hd' e2' hm
        | _ => exact absurd hk (by simp [ST.kind])
      | set h0 e =>
        cases hy with
        | set h0' e' => exact cmp_set (Lib.hid (IH.out _ (.inl (by simp [ST.kids])))) h0 e h0' e' hm
        | _ => exact absurd hk (by simp [ST.kind])
      | any lk hl r e =>
        cases hy with
        | any lk' hl' r' e' => exact cmp_any (Lib.hid fun k hk => IH.out k (.inl hk)) lk hl r e lk' hl' r' e' hm
        | _ => exact absurd hk (by simp [ST.kind])
    · exact cmp_diff hx hy hk w
theorem compare_any (s : ST) : CmpOk s := cmp_n _ s (Nat.lt_succ_self _)
end Go.Proofs.YtaglgokeejjagaaGreat
