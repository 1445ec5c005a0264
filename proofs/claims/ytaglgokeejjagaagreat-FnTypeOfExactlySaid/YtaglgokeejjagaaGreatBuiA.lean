/- What 'built' calls: keys, types with a number, all types; sets, dynamic properties. -/
import Derived.Test.YtaglgokeejjagaaGreatNAny
namespace Go.Proofs.YtaglgokeejjagaaGreat
set_option linter.unusedVariables false
set_option linter.unusedSimpArgs false
open Go.RowKit Go.Sort

def KeyP (k : Ky) (w : World) (e : Ending) (w' : World) : Prop := e = .returned (akOf k).v ∧ Gr w w'
set_option maxHeartbeats 2000000 in
set_option maxRecDepth 100000 in
theorem key_any (k : Ky) (w : World) : Calls Tryz.prog 81 #[.agg #[.int .i64 k.kind, .string k.text]] w (KeyP k w) := by
  obtain ⟨kd, tx⟩ := k
  by_cases h1 : kd = 1
  · subst h1
    go_enter Tryz.func81, Tryz.ntmps81
    go_wp2
    go_ret
    exact ⟨rfl, (Gr.refl _).alloc _⟩
  · by_cases h2 : kd = 2
    · subst h2
      go_enter Tryz.func81, Tryz.ntmps81
      go_wp2
      go_ret
      exact ⟨rfl, (Gr.refl _).alloc _⟩
    · by_cases h4 : kd = 4
      · subst h4
        go_enter Tryz.func81, Tryz.ntmps81
        go_wp2
        go_ret
        exact ⟨rfl, (Gr.refl _).alloc _⟩
      · have HK := Lib.hid (show (akOf ⟨kd, tx⟩).v = .nilIface by unfold akOf; rw [if_neg h1, if_neg h2, if_neg h4]; rfl)
        go_enter Tryz.func81, Tryz.ntmps81
        go_wp2
        go_ret
        exact ⟨by rw [HK.out]; rfl, (Gr.refl _).alloc _⟩

def NsetP (x : Value) (w : World) (e : Ending) (w' : World) : Prop := e = .returned (.pointer (some ⟨w.heap.size, 0, none⟩)) ∧ w' = w.alloc (.cells #[x] 126)
set_option maxHeartbeats 1000000 in
set_option maxRecDepth 100000 in
theorem nset_any (T : Nat) (y : Value) (w : World) : Calls Tryz.prog 84 #[.iface T y] w (NsetP (.iface T y) w) := by
  go_enter Tryz.func84, Tryz.ntmps84
  go_wp2
  go_ret
  exact ⟨rfl, rfl⟩
def NdpP (x y : Value) (w : World) (e : Ending) (w' : World) : Prop := e = .returned (.pointer (some ⟨w.heap.size, 0, none⟩)) ∧ w' = w.alloc (.cells #[x, y] 107)
set_option maxHeartbeats 1000000 in
set_option maxRecDepth 100000 in
theorem ndp_any (T T' : Nat) (y y' : Value) (w : World) : Calls Tryz.prog 83 #[.iface T y, .iface T' y'] w (NdpP (.iface T y) (.iface T' y') w) := by
  go_enter Tryz.func83, Tryz.ntmps83
  go_wp2
  go_ret
  exact ⟨rfl, rfl⟩

/-! ### 'built' of the types within -/
def BuP (s : ST) (w : World) (e : Ending) (w' : World) : Prop := ∃ v, e = .returned v ∧ RT (fr m0 w.heap.size w' none) v s ∧ Below w.heap.size w w'
def BuOk (t : IT) : Prop := ∀ (m : Mem) (kd : Int) (nm tx : ByteArray) (ak a1 a2 : Option Addr) (nk ck n1 c1 n2 c2 : Nat) (w : World), MIT m (itCells kd nm tx ak nk ck a1 n1 c1 a2 n2 c2) t → BT (toS t) → WI t ≤ 100000 → MLe m w.cell? →
  Calls Tryz.prog 46 #[.agg #[.int .i64 kd, .string nm, .string tx, .slice ak nk ck, .slice a1 n1 c1, .slice a2 n2 c2]] w (BuP (nrm (toS t)) w)

set_option maxHeartbeats 1000000 in
set_option maxRecDepth 100000 in
theorem at_nil {a : Option Addr} {n c : Nat} {i : Int} (h : (n : Int) ≤ i) (w : World) : Calls Tryz.prog 79 #[.slice a n c, .int .i64 i] w (SameP .nilIface w) := by
  go_enter Tryz.func79, Tryz.ntmps79
  go_wp2
  go_ret
  exact ⟨rfl, rfl⟩
set_option maxHeartbeats 1000000 in
set_option maxRecDepth 100000 in
theorem at_some {m : Mem} {ts : List IT} {a : Option Addr} {c i : Nat} {w : World} (hr : RowIT m a ts) (lk : lenOk ts.length c) (hi : i < ts.length) (IH : Hid (BuOk ts[i])) (hb : BT (toS ts[i])) (hw : WI ts[i] ≤ 100000) (hm : MLe m w.cell?) :
    Calls Tryz.prog 79 #[.slice a ts.length c, .int .i64 i] w (BuP (nrm (toS ts[i])) w) := by
  obtain ⟨b, off, kd, nm, tx, ak, nk, ck, a1, n1, c1, a2, n2, c2, rfl, e0, e1, e2, e3, e4, e5, hv⟩ := hr.at hi
  obtain ⟨l1, l2⟩ := lk
  have HC := Lib.hid (IH.out m _ _ _ _ _ _ _ _ _ _ _ _ w hv hb hw hm)
  replace e0 := hm _ _ e0
  replace e1 := hm _ _ e1
  replace e2 := hm _ _ e2
  replace e3 := hm _ _ e3
  replace e4 := hm _ _ e4
  replace e5 := hm _ _ e5
  clear hv hb hw hm hr
  go_enter Tryz.func79, Tryz.ntmps79
  go_wp2_with (go_at_call 46; refine HC.out.mono ?_; rintro e w2 ⟨v, rfl, hrt, hbl⟩; obtain ⟨Ty, y, rfl⟩ := hrt.shape; have HRT := Lib.hid hrt; have HBL := Lib.hid hbl; clear hrt hbl)
  go_ret
  exact ⟨_, rfl, HRT.out, HBL.out⟩

def AllP (l : List ST) (w : World) (e : Ending) (w' : World) : Prop := ∃ a c xs, e = .returned (.slice a l.length c) ∧ lenOk l.length c ∧ xs.length = l.length ∧ RowX (fr m0 w.heap.size w' none) a xs ∧ (∀ i (h1 : i < xs.length) (h2 : i < l.length), RT (fr m0 w.heap.size w' none) xs[i] l[i]) ∧ Below w.heap.size w w'
set_option maxHeartbeats 2000000 in
set_option maxRecDepth 100000 in
theorem all_any {m : Mem} {ts : List IT} {a : Option Addr} {c : Nat} {w : World} (IH : Hid (∀ t ∈ ts, BuOk t)) (hr : RowIT m a ts) (lk : lenOk ts.length c) (hb : ∀ t ∈ ts, BT (toS t)) (hw : ∀ t ∈ ts, WI t ≤ 100000) (hn : ts.length ≤ 100000) (hm : MLe m w.cell?) :
    Calls Tryz.prog 78 #[.slice a ts.length c] w (AllP (ts.map fun t => nrm (toS t)) w) := by
  obtain ⟨l1, l2⟩ := lk
  have HR := Lib.hid hr
  have HB := Lib.hid hb
  have HW := Lib.hid hw
  have HN := Lib.hid hn
  have HM := Lib.hid hm
  clear hr hb hw hn hm
  go_enter Tryz.func78, Tryz.ntmps78
  go_wp2
  go_loopw [3, 8] (fun v i wr => ∃ k : Nat, k ≤ ts.length ∧ i = .int .i64 k ∧ Hid (Own ET m0 74 1 w.heap.size wr v ((ts.take k).map fun t => nrm (toS t)) ∧ Below w.heap.size w wr)) (fun _ i _ => ts.length - (intOf i).toNat)
  case atStart => exact ⟨0, Nat.zero_le _, rfl, Own.nil .., Below.refl _ _⟩
  case round =>
    obtain ⟨k, hk, rfl, hI⟩ := hrel
    by_cases hlt : k < ts.length
    · have hm1 := HM.out.trans (mle_below hI.out.2)
      obtain ⟨b, off, kd, nm, tx, ak, nk, ck, a1, n1, c1, a2, n2, c2, rfl, e0, e1, e2, e3, e4, e5, hv⟩ := HR.out.at hlt
      replace e0 := hm1 _ _ e0
      replace e1 := hm1 _ _ e1
      replace e2 := hm1 _ _ e2
      replace e3 := hm1 _ _ e3
      replace e4 := hm1 _ _ e4
      replace e5 := hm1 _ _ e5
      have HM1 := Lib.hid hm1
      have HV := Lib.hid hv
      have HIN := Lib.hid (fun (W : World) (h : MLe m W.cell?) => IH.out _ (List.getElem_mem hlt) m _ _ _ _ _ _ _ _ _ _ _ _ W HV.out (HB.out _ (List.getElem_mem hlt)) (HW.out _ (List.getElem_mem hlt)) h)
      clear hv hm1
      go_wp2_with (first | (go_at_call 46; refine (HIN.out _ (mle_alloc HM1.out _)).mono ?_; rintro e w2 ⟨v, rfl, hrt, hbl⟩; obtain ⟨Ty, y, rfl⟩ := hrt.shape; have HRT := Lib.hid hrt; have HBL := Lib.hid hbl; clear hrt hbl) | (at_builtin; refine wpList_snoc em_ET rfl _ _ _ rfl rfl _ _ rfl (Snoc.call (y := nrm (toS ts[k])) em_ET hI.out.1 (lo_m0 _) (bl_alloc (Below.refl _ _) _) HBL.out ⟨_, rfl, HRT.out⟩ sl109 rfl (by simp [Value.oneCell']) (by have := HN.out; simp; omega) (by have := HN.out; simp [maxLen]; omega) hI.out.2.size) ?_; intro g' cap w5 hown5 hg5 hv5 hgg5))
      go_roundw
      case rel =>
        have ek : ((ts.take (k + 1)).map fun t => nrm (toS t)) = ((ts.take k).map fun t => nrm (toS t)) ++ [nrm (toS ts[k])] := by rw [List.take_succ_eq_append_getElem hlt, List.map_append, List.map_cons, List.map_nil]
        rw [← ek] at hown5
        refine ⟨k + 1, by omega, by go_num, ?_, bl_grown (bl_alloc (bl_trans (bl_alloc hI.out.2 _) HBL.out) _) hg5 (fun k' e => hv5 k' e)⟩
        simp only [List.length_map, List.length_take, Nat.min_eq_left (Nat.le_of_lt hlt)] at hown5
        exact hown5
      case measure => simp [intOf]; omega
    · obtain rfl : k = ts.length := by omega
      obtain ⟨hown, hb⟩ := hI.out
      rw [List.take_length] at hown
      obtain ⟨a', c', xs, rfl, lok, hxl, row, hrt⟩ := hown.types
      have HBB := Lib.hid hb
      have ROW := Lib.hid row
      have LOK := Lib.hid lok
      have HXL := Lib.hid hxl
      have HRT := Lib.hid hrt
      clear hown hb row lok hI hxl hrt
      go_wp2
      go_ret
      exact ⟨a', c', xs, by simp, LOK.out, HXL.out, ROW.out, HRT.out, HBB.out⟩
end Go.Proofs.YtaglgokeejjagaaGreat
