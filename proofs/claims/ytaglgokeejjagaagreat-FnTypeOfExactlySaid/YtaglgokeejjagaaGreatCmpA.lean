/- 'Compare' at types of different kinds; what it calls. -/
import Derived.Test.YtaglgokeejjagaaGreatCode
import Derived.BigQuiet
namespace Go.Proofs.YtaglgokeejjagaaGreat
set_option linter.unusedVariables false
set_option linter.unusedSimpArgs false
open Go.RowKit Go.Sort Go.Shelf

theorem RT.shape' {m : Mem} {v : Value} {t : ST} (r : RT m v t) : ∃ T y, v = .iface T y := by cases r <;> exact ⟨_, _, rfl⟩
def SameP (v : Value) (w : World) (e : Ending) (w' : World) : Prop := e = .returned v ∧ w' = w
set_option maxHeartbeats 2000000 in
set_option maxRecDepth 100000 in
theorem unwrap_nil (w : World) : Calls Tryz.prog 67 #[.nilIface] w (SameP .nilIface w) := by
  go_enter Tryz.func67, Tryz.ntmps67
  go_wp2
  go_ret
  exact ⟨rfl, rfl⟩
set_option maxHeartbeats 2000000 in
set_option maxRecDepth 100000 in
theorem unwrap_any {m : Mem} {v : Value} {t : ST} (h : RT m v t) (w : World) : Calls Tryz.prog 67 #[v] w (SameP v w) := by
  cases h
  all_goals
    go_enter Tryz.func67, Tryz.ntmps67
    go_wp2
    go_ret
    exact ⟨rfl, rfl⟩
set_option maxHeartbeats 2000000 in
set_option maxRecDepth 100000 in
theorem unwrapR_nil (w : World) : Calls Tryz.prog 66 #[.nilIface] w (SameP .nilIface w) := by
  go_enter Tryz.func66, Tryz.ntmps66
  go_wp2
  go_ret
  exact ⟨rfl, rfl⟩
set_option maxHeartbeats 2000000 in
set_option maxRecDepth 100000 in
theorem unwrapR_any {m : Mem} {v : Value} {t : ST} (h : RT m v t) (w : World) : Calls Tryz.prog 66 #[v] w (SameP v w) := by
  cases h
  all_goals
    go_enter Tryz.func66, Tryz.ntmps66
    go_wp2
    go_ret
    exact ⟨rfl, rfl⟩
set_option maxHeartbeats 2000000 in
set_option maxRecDepth 100000 in
theorem order_any {m : Mem} {v : Value} {t : ST} (h : RT m v t) (w : World) : Calls Tryz.prog 90 #[v] w (SameP (.int .i64 (t.kind - 1)) w) := by
  have H1 := Lib.hid (unwrap_any h)
  have H2 := Lib.hid (unwrapR_any h)
  cases h
  all_goals
    go_enter Tryz.func90, Tryz.ntmps90
    go_wp2_with (first | (go_at_call 67; refine (H1.out _).mono ?_; rintro e w2 ⟨rfl, rfl⟩) | (go_at_call 66; refine (H2.out _).mono ?_; rintro e w2 ⟨rfl, rfl⟩))
    go_ret
    exact ⟨rfl, rfl⟩

def CmpQ (n : Int) (w : World) (e : Ending) (w' : World) : Prop := e = .returned (.int .i64 n) ∧ Gr w w'
set_option maxHeartbeats 4000000 in
set_option maxRecDepth 100000 in
theorem cmp_diff {m : Mem} {x y : Value} {s t : ST} (h : RT m x s) (h' : RT m y t) (hne : s.kind ≠ t.kind) (w : World) : Calls Tryz.prog 48 #[x, y] w (CmpQ (cmpT s t) w) := by
  have hs := h.nt.kind
  have ht := h'.nt.kind
  have H1 := Lib.hid (unwrap_any h)
  have H1' := Lib.hid (unwrap_any h')
  have H2 := Lib.hid (unwrapR_any h)
  have H2' := Lib.hid (unwrapR_any h')
  have H3 := Lib.hid (order_any h)
  have H3' := Lib.hid (order_any h')
  obtain ⟨T, u, rfl⟩ := h.shape'
  obtain ⟨T', u', rfl⟩ := h'.shape'
  have HC := Lib.hid (show cmpT s t = if s.kind < t.kind then -1 else 1 by
    by_cases hl : s.kind < t.kind
    · rw [if_pos hl, cmpT_lt (by omega)]
    · rw [if_neg hl, cmpT_gt (by omega)])
  clear h h'
  obtain ⟨a, ha⟩ : ∃ a, a = s.kind - 1 := ⟨_, rfl⟩
  obtain ⟨b, hb⟩ : ∃ b, b = t.kind - 1 := ⟨_, rfl⟩
  rw [← ha] at H3
  rw [← hb] at H3'
  by_cases hl : s.kind < t.kind
  · have HE := Lib.hid (show cmpT s t = -1 by rw [HC.out, if_pos hl])
    have d1 : decide (b < a) = false := by simp; omega
    have d2 : decide (a < b) = true := by simp; omega
    clear hl ha hb hne hs ht HC
    go_enter Tryz.func48, Tryz.ntmps48
    go_wp2_with (first | (go_at_call 67; first | (((with_reducible refine (H1.out _).mono ?_)); rintro e w2 ⟨rfl, rfl⟩) | (((with_reducible refine (H1'.out _).mono ?_)); rintro e w2 ⟨rfl, rfl⟩)) | (go_at_call 66; first | (((with_reducible refine (H2.out _).mono ?_)); rintro e w2 ⟨rfl, rfl⟩) | (((with_reducible refine (H2'.out _).mono ?_)); rintro e w2 ⟨rfl, rfl⟩)) | (go_at_call 90; first | (((with_reducible refine (H3.out _).mono ?_)); rintro e w2 ⟨rfl, rfl⟩) | (((with_reducible refine (H3'.out _).mono ?_)); rintro e w2 ⟨rfl, rfl⟩)))
    go_ret
    exact ⟨by rw [HE.out]; rfl, Gr.refl _⟩
  · have HE := Lib.hid (show cmpT s t = 1 by rw [HC.out, if_neg hl])
    have d1 : decide (b < a) = true := by simp; omega
    have d2 : decide (a < b) = false := by simp; omega
    clear hl ha hb hne hs ht HC
    go_enter Tryz.func48, Tryz.ntmps48
    go_wp2_with (first | (go_at_call 67; first | (((with_reducible refine (H1.out _).mono ?_)); rintro e w2 ⟨rfl, rfl⟩) | (((with_reducible refine (H1'.out _).mono ?_)); rintro e w2 ⟨rfl, rfl⟩)) | (go_at_call 66; first | (((with_reducible refine (H2.out _).mono ?_)); rintro e w2 ⟨rfl, rfl⟩) | (((with_reducible refine (H2'.out _).mono ?_)); rintro e w2 ⟨rfl, rfl⟩)) | (go_at_call 90; first | (((with_reducible refine (H3.out _).mono ?_)); rintro e w2 ⟨rfl, rfl⟩) | (((with_reducible refine (H3'.out _).mono ?_)); rintro e w2 ⟨rfl, rfl⟩)))
    go_ret
    exact ⟨by rw [HE.out]; rfl, Gr.refl _⟩

/-! ### A value in memory is one type -/
theorem rowX_get {m : Mem} {a : Option Addr} {xs : List Value} (h : RowX m a xs) {i : Nat} (hi : i < xs.length) : ∃ b off, a = some ⟨b, off, none⟩ ∧ m ⟨b, off + i, none⟩ = some xs[i] := by
  obtain ⟨b, off, e, hc⟩ := Row.at h hi
  have := hc 0 xs[i] (by rw [getD_eq _ _ hi]; rfl)
  rw [Nat.mul_one] at this
  exact ⟨b, off, e, this⟩
theorem rowX_inj {m : Mem} {a : Option Addr} {xs ys : List Value} (h : RowX m a xs) (h' : RowX m a ys) (hl : xs.length = ys.length) : xs = ys := by
  refine List.ext_getElem hl fun i h1 h2 => ?_
  obtain ⟨b, off, e, c⟩ := rowX_get h h1
  obtain ⟨b', off', e', c'⟩ := rowX_get h' h2
  rw [e] at e'; cases e'
  rw [c] at c'; exact Option.some.inj c'
theorem ptrs_inj {ps qs : List Nat} (h : (ps.map fun p => Value.pointer (some (⟨p, 0, none⟩ : Addr))) = qs.map fun p => Value.pointer (some (⟨p, 0, none⟩ : Addr))) : ps = qs := by
  have hl : ps.length = qs.length := by have := congrArg List.length h; simpa using this
  refine List.ext_getElem hl fun i h1 h2 => ?_
  have e : (ps.map fun p => Value.pointer (some (⟨p, 0, none⟩ : Addr)))[i]? = (qs.map fun p => Value.pointer (some (⟨p, 0, none⟩ : Addr)))[i]? := by rw [h]
  rw [List.getElem?_map, List.getElem?_map, List.getElem?_eq_getElem h1, List.getElem?_eq_getElem h2] at e
  simpa using e
theorem RT.inj {m : Mem} {v : Value} {s t : ST} (h : RT m v s) (h' : RT m v t) : s = t := by
  induction h generalizing t with
  | null => cases h'; rfl
  | bool => cases h'; rfl
  | num => cases h'; rfl
  | str => cases h'; rfl
  | @arr b c a xs ds kids more h0 h1 lk hl r e hd h2 e2 ih ih2 =>
    cases h' with
    | @arr b' c' a' xs' ds' kids' more' h0' h1' lk' hl' r' e' hd' h2' e2' =>
      have q0 := Option.some.inj (h0.symm.trans h0')
      injection q0 with qa ql qc
      subst qa
      have hxx := rowX_inj r r' (by omega)
      subst hxx
      have q1 := Option.some.inj (h1.symm.trans h1')
      have hk : kids = kids' := List.ext_getElem ql fun i g1 g2 => ih i (by omega) g1 (e' i (by omega) g2)
      have hdl : ds = ds' := by
        match ds, ds', more, more', hd, hd', h2, h2', e2, e2', q1 with
        | [], [], _, _, _, _, _, _, _, _, _ => rfl
        | [], d' :: _, _, _, hd, hd', h2, h2', e2, e2', q1 =>
          have : RT m d' _ := e2' 0 (by simp) (by rw [← hd']; simp)
          obtain ⟨T, y, e⟩ := this.shape'
          simp [e] at q1
        | d :: _, [], _, _, hd, hd', h2, h2', e2, e2', q1 =>
          have : RT m d _ := e2 0 (by simp) (by rw [← hd]; simp)
          obtain ⟨T, y, e⟩ := this.shape'
          simp [e] at q1
        | [d], [d'], _, _, hd, hd', h2, h2', e2, e2', q1 => simp at q1; rw [q1]
        | _ :: _ :: _, _, _, _, hd, _, h2, _, _, _, _ => simp at hd; omega
        | _, _ :: _ :: _, _, _, _, hd', _, h2', _, _, _ => simp at hd'; omega
      subst hdl
      have hm : more = more' := List.ext_getElem (by omega) fun i g1 g2 => ih2 i (by omega) g1 (e2' i (by omega) g2)
      rw [hk, hm]
  | @obj b c a ps xs ks kids dv ds more h0 h1 lk hp hx hk r e0 e1 e so hd e2 ih ih2 =>
    generalize hv : Value.iface 80 (.pointer (some ⟨b, 0, none⟩)) = v at h'
    cases h' with
    | @obj b' c' a' ps' xs' ks' kids' dv' ds' more' h0' h1' lk' hp' hx' hk' r' e0' e1' e' so' hd' e2' =>
      cases hv
      have q0 := Option.some.inj (h0.symm.trans h0')
      injection q0 with qa ql qc
      subst qa
      have hps := ptrs_inj (rowX_inj r r' (by simp; omega))
      subst hps
      have hkk : ks = ks' := List.ext_getElem (by omega) fun i g1 g2 => AK.v_inj (Option.some.inj ((e0 i (by omega) g1).symm.trans (e0' i (by omega) g2)))
      subst hkk
      have hxx : xs = xs' := List.ext_getElem (by omega) fun i g1 g2 => Option.some.inj ((e1 i (by omega) g1).symm.trans (e1' i (by omega) g2))
      subst hxx
      have hkd : kids = kids' := List.ext_getElem ql fun i g1 g2 => ih i (by omega) g1 (e' i (by omega) g2)
      subst hkd
      have q1 := Option.some.inj (h1.symm.trans h1')
      subst q1
      have hm : more = more' := by
        rcases hd with ⟨rfl, rfl⟩ | ⟨q, rfl, d1, d2, d3⟩
        · rcases hd' with ⟨_, rfl⟩ | ⟨q', e9, _⟩
          · rfl
          · cases e9
        · rcases hd' with ⟨e9, _⟩ | ⟨q', e9, d1', d2', d3'⟩
          · cases e9
          · cases e9
            have hds : ds = ds' := List.ext_getElem (by omega) fun i g1 g2 => Option.some.inj ((d3 i g1).symm.trans (d3' i g2))
            subst hds
            exact List.ext_getElem (by omega) fun i g1 g2 => ih2 i (by omega) g1 (e2' i (by omega) g2)
      subst hm
      rfl
    | _ => cases hv
  | @set b x t h0 e ih =>
    cases h' with
    | @set b' x' t' h0' e' =>
      have := Option.some.inj (h0.symm.trans h0')
      subst this
      rw [ih e']
  | @any c a xs kids lk hl r e ih =>
    generalize hv : Value.iface 110 (.slice a kids.length c) = v at h'
    cases h' with
    | @any c' a' xs' kids' lk' hl' r' e' =>
      injection hv with _ hv
      injection hv with qa ql qc
      subst qa
      have hxx := rowX_inj r r' (by omega)
      subst hxx
      have hk : kids = kids' := List.ext_getElem ql fun i g1 g2 => ih i (by omega) g1 (e' i (by omega) g2)
      rw [hk]
    | _ => cases hv
end Go.Proofs.YtaglgokeejjagaaGreat
