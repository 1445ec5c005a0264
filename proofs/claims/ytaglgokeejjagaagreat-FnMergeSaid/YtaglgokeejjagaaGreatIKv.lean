/- What 'Keys' and 'Values' give: plain laws. -/
import Derived.Test.YtaglgokeejjagaaGreatOrC
import Derived.Test.YtaglgokeejjagaaGreatLawK
namespace Go.Proofs.YtaglgokeejjagaaGreat
set_option linter.unusedVariables false
set_option linter.unusedSimpArgs false
open Go.RowKit Go.Sort

/-- Whatever is asked of a value of the type is held. -/
def AskR (E : Vl → Vl → Prop) (s : ST) (o : Option ST) : Prop := (∀ v u, PV v → InP s v → E v u → InO o u) ∧ OWo o ≤ WS s
def LpA (E : Vl → Vl → Prop) (kids : List ST) (p : Nat) (o : Option ST) : Prop := (∀ v u, PV v → E v u → (∃ i, ∃ h : i < kids.length, i < p ∧ InP kids[i] v) → InO o u) ∧ OWo o ≤ SumW (kids.take p)
variable {E : Vl → Vl → Prop}
theorem askR_flat {s : ST} (hE : ∀ v u, E v u → v.kind = 5 ∨ v.kind = 6) (h : s.kind = 1 ∨ s.kind = 2 ∨ s.kind = 3 ∨ s.kind = 4) : AskR E s none := by
  refine ⟨fun v u _ hv he => ?_, Nat.zero_le _⟩
  exfalso
  have hk := hE v u he
  rcases h with h | h | h | h
  · have := (inP_null h).1 hv; omega
  · have := (inP_bool h).1 hv; omega
  · have := (inP_num h).1 hv; omega
  · have := (inP_str h).1 hv; omega
theorem askR_set {t : ST} : AskR E (.mk 7 [] [t] []) (some t) :=
  ⟨fun v u _ hv he => absurd hv (inP_none (by simp [ST.kind])), Nat.le_trans (OW_le _) (ws_kid' (.inl (by simp)))⟩
theorem lpA_zero (kids : List ST) : LpA E kids 0 none := ⟨fun v u _ _ ⟨i, _, h, _⟩ => absurd h (Nat.not_lt_zero _), Nat.zero_le _⟩
theorem lpA_step {kids : List ST} {p : Nat} {o a r : Option ST} (h : p < kids.length) (ho : LpA E kids p o) (ha : AskR E kids[p] a) (hr : OrP a o r) : LpA E kids (p + 1) r := by
  refine ⟨fun v u hv he ⟨i, hi, hip, hin⟩ => hr.1 u ?_, ?_⟩
  · by_cases h2 : i = p
    · subst h2; exact .inl (ha.1 v u hv hin he)
    · exact .inr (ho.1 v u hv he ⟨i, hi, by omega, hin⟩)
  · rw [sumW_take h]
    have := hr.2; have := ha.2; have := ho.2
    omega
theorem lpA_end {kids : List ST} {o : Option ST} (h0 : kids ≠ []) (h : LpA E kids kids.length o) : AskR E (.mk 8 [] kids []) o := by
  refine ⟨fun v u hv hi he => ?_, ?_⟩
  · rcases (inP_any rfl).1 hi with h1 | ⟨i, hi, hin⟩
    · exact absurd (List.length_eq_zero_iff.1 h1) h0
    · exact h.1 v u hv he ⟨i, hi, hi, hin⟩
  · have h1 := h.2
    rw [List.take_length] at h1
    have := OW_le (.mk 8 [] kids [])
    rw [ow_8] at this
    omega
theorem askR_top : AskR E (.mk 8 [] [] []) (some (.mk 8 [] [] [])) :=
  ⟨fun v u _ _ _ => inO_some.2 ((inP_any rfl).2 (.inl rfl)), by rw [OWo, ow_8]; simp [SumW]⟩

/-- The keys of the entries of a value. -/
def EK (v u : Vl) : Prop := (v.kind = 6 ∧ ∃ i, ∃ h : i < v.keys.length, u = .mk 4 v.keys[i] [] []) ∨ (v.kind = 5 ∧ ∃ tx, u = .mk 3 tx [] [])
theorem EK.kind {v u : Vl} (h : EK v u) : v.kind = 5 ∨ v.kind = 6 := h.elim (fun h => .inr h.1) (fun h => .inl h.1)
theorem askK_arr {s : ST} (h : s.kind = 5) : AskR EK s (some (.mk 3 [] [] [])) := by
  refine ⟨fun v u _ hv he => inO_some.2 ?_, Nat.le_trans (OW_le _) (by rw [show WS (.mk 3 [] [] []) = 1 by rw [WS]; simp]; exact WS_pos s)⟩
  have h5 := ((inP_arr h).1 hv).1
  rcases he with ⟨h6, _⟩ | ⟨_, tx, rfl⟩
  · omega
  · exact (inP_num rfl).2 rfl
/-- The type of a key of a property. -/
def tyA : AK → ST
  | .none => .mk 1 [] [] []
  | .bool _ => .mk 2 [] [] []
  | .text _ => .mk 4 [] [] []
theorem tyA_w (k : AK) : OW (tyA k) ≤ 1 := Nat.le_trans (OW_le _) (by cases k <;> (rw [tyA, WS]; simp))
def KL (ks : List AK) (p : Nat) (o : Option ST) : Prop := (∀ k, AK.text k ∈ ks.take p → InO o (.mk 4 k [] [])) ∧ OWo o ≤ p
theorem kl_zero (ks : List AK) : KL ks 0 none := ⟨fun k h => by simp at h, Nat.zero_le _⟩
theorem kl_step {ks : List AK} {p : Nat} {o r : Option ST} (h : p < ks.length) (ho : KL ks p o) (hr : OrP o (some (tyA ks[p])) r) : KL ks (p + 1) r := by
  refine ⟨fun k hk => hr.1 _ ?_, ?_⟩
  · rw [List.take_succ_eq_append_getElem h] at hk
    rcases List.mem_append.1 hk with h | h
    · exact .inl (ho.1 k h)
    · simp at h
      rw [← h]
      exact .inr (inO_some.2 ((inP_str rfl).2 rfl))
  · have h1 := hr.2; have h2 := ho.2; have h3 := tyA_w ks[p]
    rw [show OWo (some (tyA ks[p])) = OW (tyA ks[p]) from rfl] at h1
    omega
theorem ws_keys {kd : Int} {ks : List Ky} {kids more : List ST} : ks.length + SumW kids + SumW more ≤ WS (.mk kd ks kids more) := by
  have h := WS_eq (.mk kd ks kids more)
  simp only [ST.keys, ST.kids, ST.more] at h
  unfold SumW
  omega
theorem askK_obj {ks : List AK} {kids more : List ST} {o r : Option ST} (hd : ks.Nodup) (ho : KL ks ks.length o) (hr : (more = [] ∧ r = o) ∨ ∃ d e, more = [d, e] ∧ OrP o (some d) r) : AskR EK (.mk 6 (ks.map kyOf) kids more) r := by
  refine ⟨fun v u _ hv he => ?_, ?_⟩
  · obtain ⟨h6, k1, k2, k3⟩ := (inP_obj rfl).1 hv
    simp only [ST.kids, ST.more, ST.keys] at k1 k2 k3
    rcases he with ⟨_, i, hi, rfl⟩ | ⟨h5, _⟩
    · by_cases hs : stat (ks.map kyOf) v.keys[i] = none
      · obtain ⟨g1, g2, g3⟩ := k3 i hi hs
        rcases hr with ⟨rfl, rfl⟩ | ⟨d, e, rfl, hr⟩
        · simp at g1
        · exact hr.1 _ (.inr (inO_some.2 (g2 d rfl)))
      · obtain ⟨j, hj⟩ := Option.ne_none_iff_exists'.1 hs
        obtain ⟨hjl, e⟩ := (stat_iff hd).1 hj
        have hm : InO o (.mk 4 v.keys[i] [] []) := ho.1 _ (by rw [List.take_length, ← e]; exact List.getElem_mem _)
        rcases hr with ⟨rfl, rfl⟩ | ⟨d, e, rfl, hr⟩
        · exact hm
        · exact hr.1 _ (.inl hm)
    · omega
  · have h1 := ws_keys (kd := 6) (ks := ks.map kyOf) (kids := kids) (more := more)
    have h2 := ho.2
    simp only [List.length_map] at h1
    rcases hr with ⟨rfl, rfl⟩ | ⟨d, e, rfl, hr⟩
    · omega
    · have h3 := hr.2
      have h4 := OW_le d
      rw [show OWo (some d) = OW d from rfl] at h3
      simp [SumW] at h1
      omega
/-- The values of the entries of a value. -/
def EW (v u : Vl) : Prop := (v.kind = 5 ∨ v.kind = 6) ∧ ∃ i, ∃ h : i < v.kids.length, u = v.kids[i]
def VL (kids : List ST) (p : Nat) (o : Option ST) : Prop := (∀ u, (∃ i, ∃ h : i < kids.length, i < p ∧ InP kids[i] u) → InO o u) ∧ OWo o ≤ SumW (kids.take p)
theorem vl_zero (kids : List ST) : VL kids 0 none := ⟨fun u ⟨i, _, h, _⟩ => absurd h (Nat.not_lt_zero _), Nat.zero_le _⟩
theorem vl_step {kids : List ST} {p : Nat} {o r : Option ST} (h : p < kids.length) (ho : VL kids p o) (hr : OrP o (some kids[p]) r) : VL kids (p + 1) r := by
  refine ⟨fun u ⟨i, hi, hip, hin⟩ => hr.1 u ?_, ?_⟩
  · by_cases h2 : i = p
    · subst h2; exact .inr (inO_some.2 hin)
    · exact .inl (ho.1 u ⟨i, hi, by omega, hin⟩)
  · rw [sumW_take h]
    have h1 := hr.2; have h2 := ho.2; have h3 := OW_le kids[p]
    rw [show OWo (some kids[p]) = OW kids[p] from rfl] at h1
    omega
theorem askW_arr {kids more : List ST} {o r : Option ST} (ho : VL kids kids.length o) (hr : OrP o more.head? r) : AskR EW (.mk 5 [] kids more) r := by
  refine ⟨fun v u _ hv he => hr.1 u ?_, ?_⟩
  · obtain ⟨h5, k1, k2, k3, k4⟩ := (inP_arr rfl).1 hv
    simp only [ST.kids, ST.more] at k1 k2 k3 k4
    obtain ⟨_, i, hi, rfl⟩ := he
    by_cases hk : i < kids.length
    · exact .inl (ho.1 _ ⟨i, hk, hk, k3 i hi hk⟩)
    · cases more with
      | nil => exact absurd (k2 rfl) (by omega)
      | cons d r => exact .inr (inO_some.2 (k4 i hi (by omega) d rfl))
  · have h1 := ws_keys (kd := 5) (ks := []) (kids := kids) (more := more)
    have h2 := ho.2
    have h3 := hr.2
    rw [List.take_length] at h2
    cases more with
    | nil =>
      rw [List.head?_nil, show OWo none = 0 from rfl] at h3
      simp [SumW] at h1 h2; omega
    | cons d r =>
      have h4 := OW_le d
      simp only [List.head?_cons] at h3
      rw [show OWo (some d) = OW d from rfl] at h3
      simp [SumW] at h1 h2
      omega
theorem askW_obj {ks : List AK} {kids more : List ST} {o r : Option ST} (hd : ks.Nodup) (hl : ks.length = kids.length) (ho : VL kids kids.length o) (hr : (more = [] ∧ r = o) ∨ ∃ d e, more = [d, e] ∧ OrP o (some e) r) : AskR EW (.mk 6 (ks.map kyOf) kids more) r := by
  refine ⟨fun v u hpv hv he => ?_, ?_⟩
  · obtain ⟨h6, k1, k2, k3⟩ := (inP_obj rfl).1 hv
    simp only [ST.kids, ST.more, ST.keys] at k1 k2 k3
    obtain ⟨_, i, hi2, rfl⟩ := he
    have hi : i < v.keys.length := by rw [hpv.len h6]; exact hi2
    by_cases hs : stat (ks.map kyOf) v.keys[i] = none
    · obtain ⟨g1, g2, g3⟩ := k3 i hi hs
      rcases hr with ⟨rfl, rfl⟩ | ⟨d, e, rfl, hr⟩
      · simp at g1
      · exact hr.1 _ (.inr (inO_some.2 (g3 e rfl hi2)))
    · obtain ⟨j, hj⟩ := Option.ne_none_iff_exists'.1 hs
      obtain ⟨hjl, e⟩ := (stat_iff hd).1 hj
      have hjk : j < kids.length := by rw [← hl]; exact hjl
      have hm : InO o v.kids[i] := ho.1 _ ⟨j, hjk, hjk, k2 i hi j hj hjk hi2⟩
      rcases hr with ⟨rfl, rfl⟩ | ⟨d, e, rfl, hr⟩
      · exact hm
      · exact hr.1 _ (.inl hm)
  · have h1 := ws_keys (kd := 6) (ks := ks.map kyOf) (kids := kids) (more := more)
    have h2 := ho.2
    rw [List.take_length] at h2
    rcases hr with ⟨rfl, rfl⟩ | ⟨d, e, rfl, hr⟩
    · omega
    · have h3 := hr.2
      have h4 := OW_le e
      rw [show OWo (some e) = OW e from rfl] at h3
      simp [SumW] at h1 h2
      omega
end Go.Proofs.YtaglgokeejjagaaGreat
/- 'Keys' and 'Values' of the package. -/
namespace Go.Proofs.YtaglgokeejjagaaGreat
set_option linter.unusedVariables false
set_option linter.unusedSimpArgs false
open Go.RowKit Go.Sort

/-- A contract of a function of a type. -/
def AskC (n : Nat) (s : ST) (P : Option ST → Prop) : Prop := ∀ (m : Mem) (r : Value) (w : World), RT m r s → MLe m (ucell w) →
  Calls Tryz.prog n #[r] w (fun e w' => ∃ y o, P o ∧ e = .returned y ∧ RO (fr m w.heap.size w' none) y o ∧ Below w.heap.size w w')
theorem askC_slq {n : Nat} {s : ST} {P : Option ST → Prop} (h : ∀ (m : Mem) (r : Value) (w : World), RT m r s → MLe m (ucell w) → Calls Tryz.prog n #[r] w (SlQ m P w)) : AskC n s P := fun m r w h1 h2 =>
  (h m r w h1 h2).mono fun e w' ⟨y, o, hp, e1, e2, hg⟩ => ⟨y, o, hp, e1, e2.mono (fr_old (fun a x hx => ucell_lt (h2 a x hx))), hg.below⟩
set_option maxHeartbeats 2000000 in
set_option maxRecDepth 100000 in
theorem ty_none (w : World) : Calls Tryz.prog 51 #[.nilIface] w (FxP (.iface 90 (.agg #[])) w) := by
  go_enter Tryz.func51, Tryz.ntmps51
  go_wp2_with (first | (go_at_call 73; refine (new73 _).mono ?_; rintro e w2 ⟨rfl, g⟩) | go_in)
  go_ret
  exact ⟨rfl, g⟩
set_option maxHeartbeats 2000000 in
set_option maxRecDepth 100000 in
theorem ty_bool {b : Bool} (w : World) : Calls Tryz.prog 51 #[.iface 4 (.bool b)] w (FxP (.iface 91 (.agg #[])) w) := by
  go_enter Tryz.func51, Tryz.ntmps51
  go_wp2_with (first | (go_at_call 74; refine (new74 _).mono ?_; rintro e w2 ⟨rfl, g⟩) | go_in)
  go_ret
  exact ⟨rfl, g⟩
def tyV : AK → Value
  | .none => .iface 90 (.agg #[])
  | .bool _ => .iface 91 (.agg #[])
  | .text _ => .iface 93 (.agg #[])
theorem ty_ak (k : AK) (w : World) : Calls Tryz.prog 51 #[k.v] w (FxP (tyV k) w) := by
  cases k with
  | none => exact ty_none w
  | bool x => exact ty_bool w
  | text t => exact ty_text w
theorem tyV_rt (m : Mem) (k : AK) : RT m (tyV k) (tyA k) := by
  cases k with
  | none => exact .null
  | bool x => exact .bool
  | text t => exact .str
set_option maxHeartbeats 2000000 in
set_option maxRecDepth 100000 in
theorem new97 (w : World) : Calls Tryz.prog 97 #[] w (FxP (.iface 92 (.agg #[])) w) := by
  go_enter Tryz.func97, Tryz.ntmps97
  go_wp2_with (first | (go_at_call 75; refine (new75 _).mono ?_; rintro e w2 ⟨rfl, g⟩) | go_in)
  go_ret
  exact ⟨rfl, g⟩
theorem info20' : (Tryz.prog.info? 20).map (fun i => (i.zero, i.size, i.bytes)) = some (some .nilIface, 1, 16) := by kernel_rfl
theorem Own.rowEV {B : Nat} {w : World} {v : Value} {l : List Value} (h : Own EV m0 20 1 B w v l) : ∃ a c, v = .slice a l.length c ∧ lenOk l.length c ∧ RowX (fr m0 B w none) a l := by
  obtain ⟨a, c, f, rfl, h1, h2, hr, hx⟩ := h.row em_EV
  exact ⟨a, c, rfl, ⟨h1, Nat.le_trans h2 (by simp [maxLen])⟩, rowX_of hr rfl (fun i hi => hx i hi)⟩
/-- A row of keys. -/
def OkQ (ks : List AK) (w : World) (e : Ending) (w' : World) : Prop := ∃ a c, e = .returned (.slice a ks.length c) ∧ lenOk ks.length c ∧ RowX (fr m0 w.heap.size w' none) a (ks.map AK.v) ∧ Below w.heap.size w w'
set_option maxHeartbeats 4000000 in
set_option maxRecDepth 100000 in
theorem okeys_any {m : Mem} {w : World} {b c : Nat} {a : Option Addr} {ps : List Nat} {ks : List AK} (h0 : m ⟨b, 0, none⟩ = some (.slice a ks.length c)) (lk : lenOk ks.length c) (hp : ps.length = ks.length)
    (r : RowX m a (ps.map fun p => .pointer (some ⟨p, 0, none⟩))) (e0 : ∀ i (h : i < ps.length) (h1 : i < ks.length), m ⟨ps[i], 0, none⟩ = some ks[i].v) (hm : MLe m (ucell w)) (hn : ks.length < 1000000) :
    Calls Tryz.prog 99 #[.pointer (some ⟨b, 0, none⟩)] w (OkQ ks w) := by
  obtain ⟨k1, k2⟩ := lk
  have HR := Lib.hid r
  have HE0 := Lib.hid e0
  have HM := Lib.hid hm
  have HP := Lib.hid hp
  have HN := Lib.hid hn
  have H0 := Lib.hid h0
  have c0 := ucell_le _ _ (hm _ _ h0)
  obtain ⟨i0, hi0, hz0, hz1, hz2⟩ := info_parts info20'
  have HZ2 := Lib.hid hz2
  clear r e0 hm hp hn hz2 h0
  go_enter Tryz.func99, Tryz.ntmps99
  go_wp2_with (at_make; refine wpList_make_own _ rfl _ _ 147 rfl w.heap.size 20 i0 .nilIface 1 Tryz.underlying147 hi0 hz0 hz1 .i64 .i64 _ ks.length rfl rfl (by omega) (by rw [HZ2.out]; have := HN.out; omega) (by have := HN.out; simp [maxLen]; omega) (Nat.le_refl _) ?_; intro w1 hown1 hg1; have HI0 := Lib.hid (show Own EV m0 20 1 w.heap.size w1 (.slice (some ⟨w.heap.size, 0, none⟩) 0 ks.length) [] ∧ Below w.heap.size w w1 from ⟨⟨[], hown1, fun i h => absurd h (Nat.not_lt_zero _)⟩, (Below.refl _ _).grown hg1 (Nat.le_refl _) (fun k e => by cases e)⟩); clear hown1 hg1 c0; have c0 := ucell_le _ _ ((HM.out.trans (mleU HI0.out.2)) _ _ H0.out))
  go_loopw [3, 17] (fun v i wr => ∃ k : Nat, k ≤ ks.length ∧ i = .int .i64 k ∧ Hid (Own EV m0 20 1 w.heap.size wr v ((ks.take k).map AK.v) ∧ Below w.heap.size w wr)) (fun _ i _ => ks.length - (intOf i).toNat)
  case atStart => exact ⟨0, Nat.zero_le _, rfl, HI0.out.1, HI0.out.2⟩
  case round =>
    obtain ⟨k, hk, rfl, hI⟩ := hrel
    by_cases hlt : k < ks.length
    · have hmw := HM.out.trans (mleU hI.out.2)
      have hkp : k < ps.length := by have := HP.out; omega
      obtain ⟨rb, off, ea, hx0⟩ := HR.out.at (show k < (ps.map fun p => Value.pointer (some ⟨p, 0, none⟩)).length by simpa using hkp)
      rw [List.getElem_map] at hx0
      subst ea
      have q0 := ucell_le _ _ (hmw _ _ hx0)
      have q1 := ucell_le _ _ (hmw _ _ (HE0.out k hkp hlt))
      clear hx0 hmw
      generalize hkv : ks[k].v = kv at q1
      have HKV := Lib.hid hkv
      have HLN := Lib.hid (show ((ks.take k).map AK.v).length = k by simp; omega)
      have hsh : kv = .nilIface ∨ ∃ T y, kv = .iface T y := by
        rw [← hkv]
        generalize ks[k] = x
        cases x with
        | none => exact .inl rfl
        | bool b => exact .inr ⟨_, _, rfl⟩
        | text t => exact .inr ⟨_, _, rfl⟩
      clear hkv
      rcases hsh with rfl | ⟨T, y, rfl⟩
      all_goals
        go_wp2_with (at_builtin; refine wpList_snoc em_EV rfl _ _ _ rfl rfl _ _ rfl (Snoc.flat (y := _) em_EV hI.out.1 (lo_m0 _) (Below.refl _ _) (fun _ => rfl) sl147 rfl (by simp [Value.oneCell']) (by have := HN.out; have := HLN.out; omega) (by have := HN.out; have := HLN.out; simp [maxLen] at *; omega) hI.out.2.size) ?_; intro g' cap w5 hown5 hg5 hv5 hgg5)
        go_roundw
        case rel =>
          refine ⟨k + 1, by omega, by go_num, ?_, bl_grown (bl_alloc hI.out.2 _) hg5 hv5⟩
          have e : (ks.take (k + 1)).map AK.v = (ks.take k).map AK.v ++ [ks[k].v] := by rw [List.take_succ_eq_append_getElem hlt, List.map_append]; rfl
          have h5 := hown5
          rw [HLN.out] at h5
          rw [e, HKV.out]; exact h5
        case measure => simp [intOf]; omega
    · obtain rfl : k = ks.length := by omega
      obtain ⟨h1, h2⟩ := hI.out
      rw [List.take_length] at h1
      obtain ⟨a', c', rfl, lk', hr'⟩ := h1.rowEV
      have HRES := Lib.hid (show OkQ ks w (.returned (.slice a' (ks.map AK.v).length c')) wr from ⟨a', c', by simp, by simpa using lk', hr', h2⟩)
      clear h1 h2 lk' hr' hI
      go_wp2
      go_ret
      exact HRES.out

set_option maxHeartbeats 4000000 in
set_option maxRecDepth 100000 in
theorem keys_any0 {m : Mem} {w : World} {a : Option Addr} {c : Nat} (h : RT m (.iface 110 (.slice a 0 c)) (.mk 8 [] [] [])) (hm : MLe m (ucell w)) : Calls Tryz.prog 52 #[.iface 110 (.slice a 0 c)] w (SlQ m (· = some (.mk 8 [] [] [])) w) := by
  have H1 := Lib.hid (unwrap_any h)
  have H2 := Lib.hid (unwrapR_any h)
  have HM := Lib.hid hm
  have HC := Lib.hid (fun (b : Option Addr) (W : World) (hW : MLe m (ucell W)) => show Calls Tryz.prog 48 #[.iface 110 (.slice a 0 c), .iface 110 (.slice b 0 0)] W (fun e w' => e = .returned (.int .i64 0) ∧ Gr W w') from by
    have := compare_any (.mk 8 [] [] []) (.mk 8 [] [] []) m (.iface 110 (.slice a 0 c)) (.iface 110 (.slice b 0 0)) W h (top_rt _ _) hW
    rw [cmpT_self] at this
    exact this)
  clear h hm
  go_enter Tryz.func52, Tryz.ntmps52
  go_wp2_with (first
    | (go_at_call 67; refine (H1.out _).mono ?_; rintro e w2 ⟨rfl, hww⟩; have hww := hww.symm; subst hww)
    | (go_at_call 66; refine (H2.out _).mono ?_; rintro e w2 ⟨rfl, hww⟩; have hww := hww.symm; subst hww)
    | (go_at_call 71; refine (top_any w).mono ?_; rintro e w3 ⟨b1, rfl, hg⟩; have HG := Lib.hid hg; clear hg)
    | (go_at_call 48; refine (HC.out _ _ (HM.out.trans (mleU HG.out.below))).mono ?_; rintro e w4 ⟨rfl, hg⟩; have HG2 := Lib.hid (HG.out.trans hg); clear hg)
    | (go_at_call 71; refine (top_any w4).mono ?_; rintro e w5 ⟨b2, rfl, hg⟩; have HG3 := Lib.hid (HG2.out.trans hg); clear hg))
  go_ret
  exact ⟨_, some (.mk 8 [] [] []), rfl, rfl, top_rt _ _, HG3.out⟩
set_option maxHeartbeats 4000000 in
set_option maxRecDepth 100000 in
theorem keys_any1 {m : Mem} {w : World} {a : Option Addr} {c : Nat} {l : List ST} {xs : List Value} (h0 : l ≠ []) (lk : lenOk l.length c) (hl : xs.length = l.length) (r : RowX m a xs) (e : ∀ i (h1 : i < xs.length) (h2 : i < l.length), RT m xs[i] l[i]) (hm : MLe m (ucell w)) (hn : SumW l < 100000)
    (IH : ∀ k ∈ l, AskC 52 k (AskR EK k)) : Calls Tryz.prog 52 #[.iface 110 (.slice a l.length c)] w (fun e w' => ∃ y o, AskR EK (.mk 8 [] l []) o ∧ e = .returned y ∧ RO (fr m w.heap.size w' none) y o ∧ Below w.heap.size w w') := by
  have h : RT m (.iface 110 (.slice a l.length c)) (.mk 8 [] l []) := .any lk hl r e
  have H1 := Lib.hid (unwrap_any h)
  have H2 := Lib.hid (unwrapR_any h)
  have HM := Lib.hid hm
  have HLO := Lib.hid (lo_of_mle (hm.trans ucell_le))
  have hz : cmpT (.mk 8 [] l []) (.mk 8 [] [] []) ≠ 0 := fun e => h0 ((any_zero h).1 e)
  have HC := Lib.hid (fun (b : Option Addr) (W : World) (hW : MLe m (ucell W)) => compare_any (.mk 8 [] l []) (.mk 8 [] [] []) m (.iface 110 (.slice a l.length c)) (.iface 110 (.slice b 0 0)) W h (top_rt _ _) hW)
  generalize cmpT (.mk 8 [] l []) (.mk 8 [] [] []) = n at HC hz
  have HC' := Lib.hid (fun (b : Option Addr) (W : World) (hW : MLe m (ucell W)) => show Calls Tryz.prog 48 #[.iface 110 (.slice a l.length c), .iface 110 (.slice b 0 0)] W (fun e w' => e = .returned (.int .i64 n) ∧ Gr W w') from HC.out b W hW)
  have hz' : (n == 0) = false := by simpa using hz
  obtain ⟨b0, off, rfl, z1⟩ := rowX_get r (show 0 < xs.length by rw [hl]; exact List.length_pos_iff.2 h0)
  have HR := Lib.hid (fun j (hj : j < xs.length) => show m ⟨b0, off + j, none⟩ = some xs[j] by obtain ⟨_, _, e, h⟩ := rowX_get r hj; cases e; exact h)
  have HE := Lib.hid e
  have HL := Lib.hid hl
  have HN := Lib.hid hn
  have H0 := Lib.hid h0
  have HI := Lib.hid (fun (k : ST) (hk : k ∈ l) (r : Value) (W : World) (h1 : RT m r k) (h2 : MLe m (ucell W)) => show Calls Tryz.prog 52 #[r] W (fun e w' => ∃ y o, AskR EK k o ∧ e = .returned y ∧ RO (fr m W.heap.size w' none) y o ∧ Below W.heap.size W w') from IH k hk m r W h1 h2)
  obtain ⟨k1, k2⟩ := lk
  have hlen := Lib.hid (sumW_len l)
  clear z1 h hm r e hl hn h0 IH HC hz
  go_enter Tryz.func52, Tryz.ntmps52
  go_wp2_with (first
    | (go_at_call 67; refine (H1.out _).mono ?_; rintro e w2 ⟨rfl, hww⟩; have hww := hww.symm; subst hww)
    | (go_at_call 66; refine (H2.out _).mono ?_; rintro e w2 ⟨rfl, hww⟩; have hww := hww.symm; subst hww)
    | (go_at_call 71; refine (top_any w).mono ?_; rintro e w3 ⟨b1, rfl, hg⟩; have HG := Lib.hid hg; clear hg)
    | (go_at_call 48; refine (HC'.out _ _ (HM.out.trans (mleU HG.out.below))).mono ?_; rintro e w4 ⟨rfl, hg⟩; have HG2 := Lib.hid (HG.out.trans hg); clear hg))
  go_loopw [10, 67] (fun tp i wr => ∃ (p : Nat) (o : Option ST), p ≤ l.length ∧ i = .int .i64 p ∧ Hid (LpA EK l p o ∧ RO (fr m w.heap.size wr none) tp o ∧ Below w.heap.size w wr)) (fun _ i _ => l.length - (intOf i).toNat)
  case atStart => exact ⟨0, none, Nat.zero_le _, rfl, lpA_zero _, rfl, HG2.out.below⟩
  case round =>
    obtain ⟨p, o, hp, rfl, hI⟩ := hrel
    by_cases hlt : p < l.length
    · have hxr := HE.out p (by have := HL.out; omega) hlt
      have hmw := HM.out.trans (mleU hI.out.2.2)
      have c0 := ucell_le _ _ (hmw _ _ (HR.out p (by have := HL.out; omega)))
      obtain ⟨T, u, hs⟩ := hxr.shape'
      rw [hs] at hxr c0
      have HXR := Lib.hid hxr
      have HMW := Lib.hid hmw
      clear hxr hs hmw
      go_wp2_with (first
        | (go_at_call 52; refine (HI.out _ (List.getElem_mem hlt) _ _ HXR.out HMW.out).mono ?_; rintro e w5 ⟨y, o', ho', rfl, hr, hb⟩; have HS := Lib.hid ho'; have HB := Lib.hid (bl_trans hI.out.2.2 hb); have HY := Lib.hid (hr.mono (fr_lower (w' := w5) HLO.out hI.out.2.2.size (fun k _ _ => rfl))); have HTP := Lib.hid (hI.out.2.1.mono (fr_bl hb)); clear ho' hr hb)
        | (go_at_call 72; refine (or_any HY.out HTP.out (fr_leU (HM.out.trans (mleU HB.out))) (by have h1 := HS.out.2; have h2 := hI.out.1.2; have h3 := sumW_take hlt; have h4 := sumW_drop l (p + 1); have h5 := HN.out; omega)).mono ?_; rintro e w6 ⟨y2, o2, ho, rfl, hr, hb⟩; have HO := Lib.hid ho; have HR2 := Lib.hid (hr.mono (fr_trans HLO.out HB.out.size hb)); have HB2 := Lib.hid (bl_trans HB.out hb); clear ho hr hb))
      go_roundw
      case rel => exact ⟨p + 1, o2, by omega, by go_num, lpA_step hlt hI.out.1 HS.out HO.out, HR2.out, HB2.out⟩
      case measure => simp [intOf]; omega
    · obtain rfl : p = l.length := by omega
      go_wp2
      go_ret
      exact ⟨_, o, lpA_end H0.out hI.out.1, rfl, hI.out.2.1, hI.out.2.2⟩
theorem keys_anyC {l : List ST} (hn : SumW l < 100000) (IH : ∀ k ∈ l, AskC 52 k (AskR EK k)) : AskC 52 (.mk 8 [] l []) (AskR EK (.mk 8 [] l [])) := by
  intro m r w h hm
  by_cases h0 : l = []
  · subst h0
    cases h with
    | @any c a xs _ lk hl r e =>
      refine (keys_any0 (.any (kids := []) lk hl r e) hm).mono ?_
      rintro e w' ⟨y, o, rfl, rfl, hr, hg⟩
      exact ⟨y, _, askR_top, rfl, hr.mono (fr_old (lo_of_mle (hm.trans ucell_le))), hg.below⟩
  · cases h with
    | @any c a xs _ lk hl r e => exact keys_any1 h0 lk hl r e hm hn IH
set_option maxHeartbeats 4000000 in
set_option maxRecDepth 100000 in
theorem keys_flat {m : Mem} {w : World} {v : Value} {s : ST} (h : RT m v s) (hk : s.kind = 1 ∨ s.kind = 2 ∨ s.kind = 3 ∨ s.kind = 4) : Calls Tryz.prog 52 #[v] w (SlQ m (· = none) w) := by
  have H1 := Lib.hid (unwrap_any h)
  have H2 := Lib.hid (unwrapR_any h)
  cases h with
  | null | bool | num | str =>
    clear hk
    go_enter Tryz.func52, Tryz.ntmps52
    go_wp2_with (first
    | (go_at_call 67; refine (H1.out _).mono ?_; rintro e w2 ⟨rfl, hww⟩; have hww := hww.symm; subst hww)
    | (go_at_call 66; refine (H2.out _).mono ?_; rintro e w2 ⟨rfl, hww⟩; have hww := hww.symm; subst hww))
    go_ret
    exact ⟨_, none, rfl, rfl, rfl, Gr.refl _⟩
  | _ => exact absurd hk (by simp [ST.kind])
set_option maxHeartbeats 4000000 in
set_option maxRecDepth 100000 in
theorem keys_set {m : Mem} {w : World} {v : Value} {t : ST} (h : RT m v (.mk 7 [] [t] [])) (hm : MLe m (ucell w)) : Calls Tryz.prog 52 #[v] w (SlQ m (· = some t) w) := by
  have H1 := Lib.hid (unwrap_any h)
  have H2 := Lib.hid (unwrapR_any h)
  cases h with
  | @set b x0 _ h0 he =>
    have c0 := ucell_le _ _ (hm _ _ h0)
    have HX := Lib.hid he
    clear h0 he hm
    go_enter Tryz.func52, Tryz.ntmps52
    go_wp2_with (first
    | (go_at_call 67; refine (H1.out _).mono ?_; rintro e w2 ⟨rfl, hww⟩; have hww := hww.symm; subst hww)
    | (go_at_call 66; refine (H2.out _).mono ?_; rintro e w2 ⟨rfl, hww⟩; have hww := hww.symm; subst hww))
    go_ret
    exact ⟨_, some t, rfl, rfl, HX.out, Gr.refl _⟩

set_option maxHeartbeats 4000000 in
set_option maxRecDepth 100000 in
theorem vals_any0 {m : Mem} {w : World} {a : Option Addr} {c : Nat} (h : RT m (.iface 110 (.slice a 0 c)) (.mk 8 [] [] [])) (hm : MLe m (ucell w)) : Calls Tryz.prog 53 #[.iface 110 (.slice a 0 c)] w (SlQ m (· = some (.mk 8 [] [] [])) w) := by
  have H1 := Lib.hid (unwrap_any h)
  have H2 := Lib.hid (unwrapR_any h)
  have HM := Lib.hid hm
  have HC := Lib.hid (fun (b : Option Addr) (W : World) (hW : MLe m (ucell W)) => show Calls Tryz.prog 48 #[.iface 110 (.slice a 0 c), .iface 110 (.slice b 0 0)] W (fun e w' => e = .returned (.int .i64 0) ∧ Gr W w') from by
    have := compare_any (.mk 8 [] [] []) (.mk 8 [] [] []) m (.iface 110 (.slice a 0 c)) (.iface 110 (.slice b 0 0)) W h (top_rt _ _) hW
    rw [cmpT_self] at this
    exact this)
  clear h hm
  go_enter Tryz.func53, Tryz.ntmps53
  go_wp2_with (first
    | (go_at_call 67; refine (H1.out _).mono ?_; rintro e w2 ⟨rfl, hww⟩; have hww := hww.symm; subst hww)
    | (go_at_call 66; refine (H2.out _).mono ?_; rintro e w2 ⟨rfl, hww⟩; have hww := hww.symm; subst hww)
    | (go_at_call 71; refine (top_any w).mono ?_; rintro e w3 ⟨b1, rfl, hg⟩; have HG := Lib.hid hg; clear hg)
    | (go_at_call 48; refine (HC.out _ _ (HM.out.trans (mleU HG.out.below))).mono ?_; rintro e w4 ⟨rfl, hg⟩; have HG2 := Lib.hid (HG.out.trans hg); clear hg)
    | (go_at_call 71; refine (top_any w4).mono ?_; rintro e w5 ⟨b2, rfl, hg⟩; have HG3 := Lib.hid (HG2.out.trans hg); clear hg))
  go_ret
  exact ⟨_, some (.mk 8 [] [] []), rfl, rfl, top_rt _ _, HG3.out⟩
set_option maxHeartbeats 4000000 in
set_option maxRecDepth 100000 in
theorem vals_any1 {m : Mem} {w : World} {a : Option Addr} {c : Nat} {l : List ST} {xs : List Value} (h0 : l ≠ []) (lk : lenOk l.length c) (hl : xs.length = l.length) (r : RowX m a xs) (e : ∀ i (h1 : i < xs.length) (h2 : i < l.length), RT m xs[i] l[i]) (hm : MLe m (ucell w)) (hn : SumW l < 100000)
    (IH : ∀ k ∈ l, AskC 53 k (AskR EW k)) : Calls Tryz.prog 53 #[.iface 110 (.slice a l.length c)] w (fun e w' => ∃ y o, AskR EW (.mk 8 [] l []) o ∧ e = .returned y ∧ RO (fr m w.heap.size w' none) y o ∧ Below w.heap.size w w') := by
  have h : RT m (.iface 110 (.slice a l.length c)) (.mk 8 [] l []) := .any lk hl r e
  have H1 := Lib.hid (unwrap_any h)
  have H2 := Lib.hid (unwrapR_any h)
  have HM := Lib.hid hm
  have HLO := Lib.hid (lo_of_mle (hm.trans ucell_le))
  have hz : cmpT (.mk 8 [] l []) (.mk 8 [] [] []) ≠ 0 := fun e => h0 ((any_zero h).1 e)
  have HC := Lib.hid (fun (b : Option Addr) (W : World) (hW : MLe m (ucell W)) => compare_any (.mk 8 [] l []) (.mk 8 [] [] []) m (.iface 110 (.slice a l.length c)) (.iface 110 (.slice b 0 0)) W h (top_rt _ _) hW)
  generalize cmpT (.mk 8 [] l []) (.mk 8 [] [] []) = n at HC hz
  have HC' := Lib.hid (fun (b : Option Addr) (W : World) (hW : MLe m (ucell W)) => show Calls Tryz.prog 48 #[.iface 110 (.slice a l.length c), .iface 110 (.slice b 0 0)] W (fun e w' => e = .returned (.int .i64 n) ∧ Gr W w') from HC.out b W hW)
  have hz' : (n == 0) = false := by simpa using hz
  obtain ⟨b0, off, rfl, z1⟩ := rowX_get r (show 0 < xs.length by rw [hl]; exact List.length_pos_iff.2 h0)
  have HR := Lib.hid (fun j (hj : j < xs.length) => show m ⟨b0, off + j, none⟩ = some xs[j] by obtain ⟨_, _, e, h⟩ := rowX_get r hj; cases e; exact h)
  have HE := Lib.hid e
  have HL := Lib.hid hl
  have HN := Lib.hid hn
  have H0 := Lib.hid h0
  have HI := Lib.hid (fun (k : ST) (hk : k ∈ l) (r : Value) (W : World) (h1 : RT m r k) (h2 : MLe m (ucell W)) => show Calls Tryz.prog 53 #[r] W (fun e w' => ∃ y o, AskR EW k o ∧ e = .returned y ∧ RO (fr m W.heap.size w' none) y o ∧ Below W.heap.size W w') from IH k hk m r W h1 h2)
  obtain ⟨k1, k2⟩ := lk
  have hlen := Lib.hid (sumW_len l)
  clear z1 h hm r e hl hn h0 IH HC hz
  go_enter Tryz.func53, Tryz.ntmps53
  go_wp2_with (first
    | (go_at_call 67; refine (H1.out _).mono ?_; rintro e w2 ⟨rfl, hww⟩; have hww := hww.symm; subst hww)
    | (go_at_call 66; refine (H2.out _).mono ?_; rintro e w2 ⟨rfl, hww⟩; have hww := hww.symm; subst hww)
    | (go_at_call 71; refine (top_any w).mono ?_; rintro e w3 ⟨b1, rfl, hg⟩; have HG := Lib.hid hg; clear hg)
    | (go_at_call 48; refine (HC'.out _ _ (HM.out.trans (mleU HG.out.below))).mono ?_; rintro e w4 ⟨rfl, hg⟩; have HG2 := Lib.hid (HG.out.trans hg); clear hg))
  go_loopw [11, 100] (fun tp i wr => ∃ (p : Nat) (o : Option ST), p ≤ l.length ∧ i = .int .i64 p ∧ Hid (LpA EW l p o ∧ RO (fr m w.heap.size wr none) tp o ∧ Below w.heap.size w wr)) (fun _ i _ => l.length - (intOf i).toNat)
  case atStart => exact ⟨0, none, Nat.zero_le _, rfl, lpA_zero _, rfl, HG2.out.below⟩
  case round =>
    obtain ⟨p, o, hp, rfl, hI⟩ := hrel
    by_cases hlt : p < l.length
    · have hxr := HE.out p (by have := HL.out; omega) hlt
      have hmw := HM.out.trans (mleU hI.out.2.2)
      have c0 := ucell_le _ _ (hmw _ _ (HR.out p (by have := HL.out; omega)))
      obtain ⟨T, u, hs⟩ := hxr.shape'
      rw [hs] at hxr c0
      have HXR := Lib.hid hxr
      have HMW := Lib.hid hmw
      clear hxr hs hmw
      go_wp2_with (first
        | (go_at_call 53; refine (HI.out _ (List.getElem_mem hlt) _ _ HXR.out HMW.out).mono ?_; rintro e w5 ⟨y, o', ho', rfl, hr, hb⟩; have HS := Lib.hid ho'; have HB := Lib.hid (bl_trans hI.out.2.2 hb); have HY := Lib.hid (hr.mono (fr_lower (w' := w5) HLO.out hI.out.2.2.size (fun k _ _ => rfl))); have HTP := Lib.hid (hI.out.2.1.mono (fr_bl hb)); clear ho' hr hb)
        | (go_at_call 72; refine (or_any HY.out HTP.out (fr_leU (HM.out.trans (mleU HB.out))) (by have h1 := HS.out.2; have h2 := hI.out.1.2; have h3 := sumW_take hlt; have h4 := sumW_drop l (p + 1); have h5 := HN.out; omega)).mono ?_; rintro e w6 ⟨y2, o2, ho, rfl, hr, hb⟩; have HO := Lib.hid ho; have HR2 := Lib.hid (hr.mono (fr_trans HLO.out HB.out.size hb)); have HB2 := Lib.hid (bl_trans HB.out hb); clear ho hr hb))
      go_roundw
      case rel => exact ⟨p + 1, o2, by omega, by go_num, lpA_step hlt hI.out.1 HS.out HO.out, HR2.out, HB2.out⟩
      case measure => simp [intOf]; omega
    · obtain rfl : p = l.length := by omega
      go_wp2
      go_ret
      exact ⟨_, o, lpA_end H0.out hI.out.1, rfl, hI.out.2.1, hI.out.2.2⟩
theorem vals_anyC {l : List ST} (hn : SumW l < 100000) (IH : ∀ k ∈ l, AskC 53 k (AskR EW k)) : AskC 53 (.mk 8 [] l []) (AskR EW (.mk 8 [] l [])) := by
  intro m r w h hm
  by_cases h0 : l = []
  · subst h0
    cases h with
    | @any c a xs _ lk hl r e =>
      refine (vals_any0 (.any (kids := []) lk hl r e) hm).mono ?_
      rintro e w' ⟨y, o, rfl, rfl, hr, hg⟩
      exact ⟨y, _, askR_top, rfl, hr.mono (fr_old (lo_of_mle (hm.trans ucell_le))), hg.below⟩
  · cases h with
    | @any c a xs _ lk hl r e => exact vals_any1 h0 lk hl r e hm hn IH
set_option maxHeartbeats 4000000 in
set_option maxRecDepth 100000 in
theorem vals_flat {m : Mem} {w : World} {v : Value} {s : ST} (h : RT m v s) (hk : s.kind = 1 ∨ s.kind = 2 ∨ s.kind = 3 ∨ s.kind = 4) : Calls Tryz.prog 53 #[v] w (SlQ m (· = none) w) := by
  have H1 := Lib.hid (unwrap_any h)
  have H2 := Lib.hid (unwrapR_any h)
  cases h with
  | null | bool | num | str =>
    clear hk
    go_enter Tryz.func53, Tryz.ntmps53
    go_wp2_with (first
    | (go_at_call 67; refine (H1.out _).mono ?_; rintro e w2 ⟨rfl, hww⟩; have hww := hww.symm; subst hww)
    | (go_at_call 66; refine (H2.out _).mono ?_; rintro e w2 ⟨rfl, hww⟩; have hww := hww.symm; subst hww))
    go_ret
    exact ⟨_, none, rfl, rfl, rfl, Gr.refl _⟩
  | _ => exact absurd hk (by simp [ST.kind])
set_option maxHeartbeats 4000000 in
set_option maxRecDepth 100000 in
theorem vals_set {m : Mem} {w : World} {v : Value} {t : ST} (h : RT m v (.mk 7 [] [t] [])) (hm : MLe m (ucell w)) : Calls Tryz.prog 53 #[v] w (SlQ m (· = some t) w) := by
  have H1 := Lib.hid (unwrap_any h)
  have H2 := Lib.hid (unwrapR_any h)
  cases h with
  | @set b x0 _ h0 he =>
    have c0 := ucell_le _ _ (hm _ _ h0)
    have HX := Lib.hid he
    clear h0 he hm
    go_enter Tryz.func53, Tryz.ntmps53
    go_wp2_with (first
    | (go_at_call 67; refine (H1.out _).mono ?_; rintro e w2 ⟨rfl, hww⟩; have hww := hww.symm; subst hww)
    | (go_at_call 66; refine (H2.out _).mono ?_; rintro e w2 ⟨rfl, hww⟩; have hww := hww.symm; subst hww))
    go_ret
    exact ⟨_, some t, rfl, rfl, HX.out, Gr.refl _⟩

end Go.Proofs.YtaglgokeejjagaaGreat
/- 'Keys' and 'Values' at arrays and objects, and at all types. -/
namespace Go.Proofs.YtaglgokeejjagaaGreat
set_option linter.unusedVariables false
set_option linter.unusedSimpArgs false
open Go.RowKit Go.Sort

set_option maxHeartbeats 4000000 in
set_option maxRecDepth 100000 in
theorem keys_arr {m : Mem} {w : World} {v : Value} {s : ST} (h : RT m v s) (hk : s.kind = 5) : Calls Tryz.prog 52 #[v] w (SlQ m (· = some (.mk 3 [] [] [])) w) := by
  have H1 := Lib.hid (unwrap_any h)
  have H2 := Lib.hid (unwrapR_any h)
  cases h with
  | @arr b c a xs ds kids more h0 h1 lk hl r e hd h2 e2 =>
    clear h0 h1 lk hl r e hd h2 e2 hk
    go_enter Tryz.func52, Tryz.ntmps52
    go_wp2_with (first
      | (go_at_call 67; refine (H1.out _).mono ?_; rintro e w2 ⟨rfl, hww⟩; have hww := hww.symm; subst hww)
      | (go_at_call 66; refine (H2.out _).mono ?_; rintro e w2 ⟨rfl, hww⟩; have hww := hww.symm; subst hww)
      | (go_at_call 97; refine (new97 _).mono ?_; rintro e w3 ⟨rfl, hg⟩; have HG := Lib.hid hg; clear hg))
    go_ret
    exact ⟨_, some (.mk 3 [] [] []), rfl, rfl, .num, HG.out⟩
  | _ => exact absurd hk (by simp [ST.kind])

set_option maxHeartbeats 8000000 in
set_option maxRecDepth 100000 in
theorem keys_obj {m : Mem} {w : World} {v : Value} {s : ST} (h : RT m v s) (h6 : s.kind = 6) (hm : MLe m (ucell w)) (hw : WS s ≤ 100000) : Calls Tryz.prog 52 #[v] w (fun e w' => ∃ y o, AskR EK s o ∧ e = .returned y ∧ RO (fr m w.heap.size w' none) y o ∧ Below w.heap.size w w') := by
  have H1 := Lib.hid (unwrap_any h)
  have H2 := Lib.hid (unwrapR_any h)
  cases h with
  | @obj b c a ps xs ks kids dv ds more h0 h1 lk hp hx hk r e0 e1 e so hd e2 =>
    have hkl := (WS_lens 6 (ks.map kyOf) kids more).1
    rw [List.length_map] at hkl
    have HK := Lib.hid (fun (W : World) (hW : MLe m (ucell W)) => show Calls Tryz.prog 99 #[.pointer (some ⟨b, 0, none⟩)] W (OkQ ks W) from okeys_any (by rw [hk]; exact h0) (by rw [hk]; exact lk) (by omega) r e0 hW (by omega))
    have HM := Lib.hid hm
    have HLO := Lib.hid (lo_of_mle (hm.trans ucell_le))
    have HN := Lib.hid (show ks.length ≤ 100000 by omega)
    have HFIN := Lib.hid (fun (o r : Option ST) => askK_obj (kids := kids) (more := more) (o := o) (r := r) (AK.nodup so))
    have HC1 := Lib.hid h1
    have HWM := Lib.hid (show SumW more ≤ 100000 by have := ws_keys (kd := 6) (ks := ks.map kyOf) (kids := kids) (more := more); omega)
    have HD := Lib.hid hd
    have HE2 := Lib.hid e2
    clear h0 h1 lk hp hx r e0 e1 e so hd e2 hm hw h6 hk hkl
    go_enter Tryz.func52, Tryz.ntmps52
    go_wp2_with (first
      | (go_at_call 67; refine (H1.out _).mono ?_; rintro e w2 ⟨rfl, hww⟩; have hww := hww.symm; subst hww)
      | (go_at_call 66; refine (H2.out _).mono ?_; rintro e w2 ⟨rfl, hww⟩; have hww := hww.symm; subst hww)
      | (go_at_call 99; refine (HK.out _ HM.out).mono ?_; rintro e w3 ⟨a', c', rfl, lk', hr', hb3⟩; have HB3 := Lib.hid hb3; have HRK := Lib.hid hr'; obtain ⟨l1, l2⟩ := lk'; clear hr' hb3))
    go_loopw [5, 25] (fun tp i wr => ∃ (p : Nat) (o : Option ST), p ≤ ks.length ∧ i = .int .i64 p ∧ Hid (KL ks p o ∧ RO (fr m w.heap.size wr none) tp o ∧ Below w.heap.size w wr ∧ Below w3.heap.size w3 wr)) (fun _ i _ => ks.length - (intOf i).toNat)
    case atStart => exact ⟨0, none, Nat.zero_le _, rfl, kl_zero _, rfl, HB3.out, Below.refl _ _⟩
    case round =>
      obtain ⟨p, o, hp, rfl, hI⟩ := hrel
      by_cases hlt : p < ks.length
      · obtain ⟨rb, off, ea, hx0⟩ := HRK.out.at (show p < (ks.map AK.v).length by simpa using hlt)
        subst ea
        rw [List.getElem_map] at hx0
        have c0 := (mle_below hI.out.2.2.2) _ _ ((fr_le (mle_m0 _)) _ _ hx0)
        have HTY := Lib.hid (fun W => ty_ak ks[p] W)
        have HTR := Lib.hid (fun m => tyV_rt m ks[p])
        generalize hkv : ks[p].v = kv at HTY c0
        generalize htv : tyV ks[p] = tv at HTY HTR
        have HTY2 := Lib.hid (fun (W : World) => show Calls Tryz.prog 51 #[kv] W (fun e w' => e = .returned tv ∧ Gr W w') from HTY.out W)
        clear hx0 hkv htv HTY
        go_wp2_with (first
          | (go_at_call 51; refine (HTY2.out _).mono ?_; rintro e w5 ⟨rfl, hg⟩; have HB5 := Lib.hid (bl_trans hI.out.2.2.1 hg.below); have HC5 := Lib.hid (bl_trans hI.out.2.2.2 hg.below); have HTP := Lib.hid (hI.out.2.1.mono (fr_bl hg.below)); have HTV := Lib.hid (show RO (fr m w.heap.size w5 none) tv (some (tyA ks[p])) from HTR.out _); clear hg)
          | (go_at_call 72; refine (or_any HTP.out HTV.out (fr_leU (HM.out.trans (mleU HB5.out))) (by have h1 := hI.out.1.2; have h2 := tyA_w ks[p]; have h3 := HN.out; rw [show OWo (some (tyA ks[p])) = OW (tyA ks[p]) from rfl]; omega)).mono ?_; rintro e w6 ⟨y2, o2, ho, rfl, hr, hb⟩; have HO := Lib.hid ho; have HR2 := Lib.hid (hr.mono (fr_trans HLO.out HB5.out.size hb)); have HB6 := Lib.hid (bl_trans HB5.out hb); have HC6 := Lib.hid (bl_trans HC5.out hb); clear ho hr hb))
        go_roundw
        case rel => exact ⟨p + 1, o2, by omega, by go_num, kl_step hlt hI.out.1 HO.out, HR2.out, HB6.out, HC6.out⟩
        case measure => simp [intOf]; omega
      · obtain rfl : p = ks.length := by omega
        have HMW := Lib.hid (HM.out.trans (mleU hI.out.2.2.1))
        have c1 := ucell_le _ _ (HMW.out _ _ HC1.out)
        rcases HD.out with ⟨rfl, em⟩ | ⟨q, rfl, hd1, hd2, hq⟩
        · have HEM := Lib.hid em
          clear em
          go_wp2
          go_ret
          exact ⟨_, o, HFIN.out _ _ hI.out.1 (.inl ⟨HEM.out, rfl⟩), rfl, hI.out.2.1, hI.out.2.2.1⟩
        · obtain ⟨kv, vv, rfl⟩ : ∃ kv vv, ds = [kv, vv] := by
            match ds, hd1 with
            | [kv, vv], _ => exact ⟨kv, vv, rfl⟩
          obtain ⟨d, d', em⟩ : ∃ d d', more = [d, d'] := by
            match more, hd2 with
            | [d, d'], _ => exact ⟨d, d', rfl⟩
          · have HKV := Lib.hid (show RT m kv d from by
              have h := HE2.out 0 (by simp) (by omega)
              have e : more[0]'(by omega) = d := by simp only [em]; rfl
              rw [e] at h; exact h)
            have HEM := Lib.hid em
            clear em hd1 hd2
            have c2 := ucell_le _ _ (HMW.out _ _ (hq 0 (by simp)))
            have HX := Lib.hid (show RO (fr m w.heap.size wr none) kv (some d) from HKV.out.mono (fr_old HLO.out))
            obtain ⟨T, u, hs⟩ := HKV.out.shape'
            simp only [List.getElem_cons_zero] at c2
            subst hs
            clear hq
            go_wp2_with (go_at_call 72; refine (or_any hI.out.2.1 HX.out (fr_leU HMW.out) (by have h1 := hI.out.1.2; have h2 := OW_le d; have h3 := HN.out; have h4 := HWM.out; rw [show OWo (some d) = OW d from rfl]; rw [HEM.out] at h4; simp [SumW] at h4; omega)).mono ?_; rintro e w6 ⟨y2, o2, ho, rfl, hr, hb⟩; have HO := Lib.hid ho; have HR2 := Lib.hid (hr.mono (fr_trans HLO.out hI.out.2.2.1.size hb)); have HB6 := Lib.hid (bl_trans hI.out.2.2.1 hb); clear ho hr hb)
            go_ret
            exact ⟨_, o2, HFIN.out _ _ hI.out.1 (.inr ⟨d, d', HEM.out, HO.out⟩), rfl, HR2.out, HB6.out⟩
  | _ => exact absurd h6 (by simp [ST.kind])

set_option maxHeartbeats 8000000 in
set_option maxRecDepth 100000 in
theorem vals_arr {m : Mem} {w : World} {v : Value} {s : ST} (h : RT m v s) (h5 : s.kind = 5) (hm : MLe m (ucell w)) (hw : WS s ≤ 100000) : Calls Tryz.prog 53 #[v] w (fun e w' => ∃ y o, AskR EW s o ∧ e = .returned y ∧ RO (fr m w.heap.size w' none) y o ∧ Below w.heap.size w w') := by
  have H1 := Lib.hid (unwrap_any h)
  have H2 := Lib.hid (unwrapR_any h)
  cases h with
  | @arr b c a xs ds kids more h0 h1 lk hl r e hd h2 e2 =>
    have HM := Lib.hid hm
    have HLO := Lib.hid (lo_of_mle (hm.trans ucell_le))
    have hws := ws_keys (kd := 5) (ks := []) (kids := kids) (more := more)
    have HN := Lib.hid (show SumW kids + SumW more ≤ 100000 by omega)
    have HFIN := Lib.hid (fun (o r : Option ST) => askW_arr (kids := kids) (more := more) (o := o) (r := r))
    have HC0 := Lib.hid h0
    have HC1 := Lib.hid h1
    have HRR := Lib.hid r
    have HE := Lib.hid e
    have HL := Lib.hid hl
    have HD := Lib.hid (show ∀ W, MLe m W → RO W (ds.headD .nilIface) more.head? from fun W hW => by
      match ds, more, hd, h2, e2 with
      | [], [], _, _, _ => rfl
      | [x], [d], _, _, e2 => exact RT.mono hW (e2 0 (by simp) (by simp))
      | [], _ :: _, hd, _, _ => simp at hd
      | _ :: _, [], hd, _, _ => simp at hd
      | _, _ :: _ :: _, _, h2, _ => simp at h2
      | _ :: _ :: _, [_], hd, _, _ => simp at hd)
    have HSH := Lib.hid (show ds.headD .nilIface = .nilIface ∨ ∃ T u, ds.headD .nilIface = .iface T u from by
      match ds, more, hd, h2, e2 with
      | [], _, _, _, _ => exact .inl rfl
      | x :: _, [], hd, _, _ => simp at hd
      | x :: _, d :: _, _, _, e2 => exact .inr (e2 0 (by simp) (by simp)).shape')
    have HOW := Lib.hid (show OWo more.head? ≤ SumW more from by
      cases more with
      | nil => exact Nat.zero_le _
      | cons d r => have := OW_le d; rw [List.head?_cons, show OWo (some d) = OW d from rfl]; simp [SumW]; omega)
    obtain ⟨l1, l2⟩ := lk
    have c0 := ucell_le _ _ (hm _ _ h0)
    clear h0 h1 hl r e hd h2 e2 hm hw h5 hws
    go_enter Tryz.func53, Tryz.ntmps53
    go_wp2_with (first
      | (go_at_call 67; refine (H1.out _).mono ?_; rintro e w2 ⟨rfl, hww⟩; have hww := hww.symm; subst hww)
      | (go_at_call 66; refine (H2.out _).mono ?_; rintro e w2 ⟨rfl, hww⟩; have hww := hww.symm; subst hww))
    clear c0
    go_loopw [4, 24] (fun tp i wr => ∃ (p : Nat) (o : Option ST), p ≤ kids.length ∧ i = .int .i64 p ∧ Hid (VL kids p o ∧ RO (fr m w.heap.size wr none) tp o ∧ Below w.heap.size w wr)) (fun _ i _ => kids.length - (intOf i).toNat)
    case atStart => exact ⟨0, none, Nat.zero_le _, rfl, vl_zero _, rfl, Below.refl _ _⟩
    case round =>
      obtain ⟨p, o, hp, rfl, hI⟩ := hrel
      have HMW := Lib.hid (HM.out.trans (mleU hI.out.2.2))
      have c0 := ucell_le _ _ (HMW.out _ _ HC0.out)
      have c1 := ucell_le _ _ (HMW.out _ _ HC1.out)
      by_cases hlt : p < kids.length
      · have hpx : p < xs.length := by have := HL.out; omega
        obtain ⟨rb, off, ea, hx0⟩ := HRR.out.at hpx
        subst ea
        have hxr := HE.out p hpx hlt
        have q0 := ucell_le _ _ (HMW.out _ _ hx0)
        obtain ⟨T, u, hs⟩ := hxr.shape'
        rw [hs] at hxr q0
        have HX := Lib.hid (show RO (fr m w.heap.size wr none) (.iface T u) (some kids[p]) from hxr.mono (fr_old HLO.out))
        clear hxr hs hx0
        go_wp2_with (go_at_call 72; refine (or_any hI.out.2.1 HX.out (fr_leU HMW.out) (by have h1 := hI.out.1.2; have h2 := sumW_take hlt; have h3 := sumW_drop kids (p + 1); have h4 := HN.out; have h5 := OW_le kids[p]; rw [show OWo (some kids[p]) = OW kids[p] from rfl]; omega)).mono ?_; rintro e w6 ⟨y2, o2, ho, rfl, hr, hb⟩; have HO := Lib.hid ho; have HR2 := Lib.hid (hr.mono (fr_trans HLO.out hI.out.2.2.size hb)); have HB6 := Lib.hid (bl_trans hI.out.2.2 hb); clear ho hr hb)
        go_roundw
        case rel => exact ⟨p + 1, o2, by omega, by go_num, vl_step hlt hI.out.1 HO.out, HR2.out, HB6.out⟩
        case measure => simp [intOf]; omega
      · obtain rfl : p = kids.length := by omega
        have HX := Lib.hid (HD.out (fr m w.heap.size wr none) (fr_old HLO.out))
        have hsh := HSH.out
        generalize ds.headD .nilIface = dv at HX hsh c1
        rcases hsh with rfl | ⟨T, u, rfl⟩
        all_goals
          go_wp2_with (go_at_call 72; refine (or_any hI.out.2.1 HX.out (fr_leU HMW.out) (by have h1 := hI.out.1.2; have h4 := HN.out; have h5 := HOW.out; rw [List.take_length] at h1; omega)).mono ?_; rintro e w6 ⟨y2, o2, ho, rfl, hr, hb⟩; have HO := Lib.hid ho; have HR2 := Lib.hid (hr.mono (fr_trans HLO.out hI.out.2.2.size hb)); have HB6 := Lib.hid (bl_trans hI.out.2.2 hb); clear ho hr hb)
          go_ret
          exact ⟨_, o2, HFIN.out _ _ hI.out.1 HO.out, rfl, HR2.out, HB6.out⟩
  | _ => exact absurd h5 (by simp [ST.kind])

set_option maxHeartbeats 8000000 in
set_option maxRecDepth 100000 in
theorem vals_obj {m : Mem} {w : World} {v : Value} {s : ST} (h : RT m v s) (h6 : s.kind = 6) (hm : MLe m (ucell w)) (hw : WS s ≤ 100000) : Calls Tryz.prog 53 #[v] w (fun e w' => ∃ y o, AskR EW s o ∧ e = .returned y ∧ RO (fr m w.heap.size w' none) y o ∧ Below w.heap.size w w') := by
  have H1 := Lib.hid (unwrap_any h)
  have H2 := Lib.hid (unwrapR_any h)
  cases h with
  | @obj b c a ps xs ks kids dv ds more h0 h1 lk hp hx hk r e0 e1 e so hd e2 =>
    have HM := Lib.hid hm
    have HLO := Lib.hid (lo_of_mle (hm.trans ucell_le))
    have hws := ws_keys (kd := 6) (ks := ks.map kyOf) (kids := kids) (more := more)
    have HN := Lib.hid (show SumW kids + SumW more ≤ 100000 by omega)
    have HFIN := Lib.hid (fun (o r : Option ST) => askW_obj (kids := kids) (more := more) (o := o) (r := r) (AK.nodup so) hk)
    have HC0 := Lib.hid h0
    have HC1 := Lib.hid h1
    have HRR := Lib.hid r
    have HE := Lib.hid e
    have HE1 := Lib.hid e1
    have HL := Lib.hid hx
    have HP := Lib.hid hp
    have HD := Lib.hid hd
    have HE2 := Lib.hid e2
    obtain ⟨l1, l2⟩ := lk
    have c0 := ucell_le _ _ (hm _ _ h0)
    clear h0 h1 hp hx r e0 e1 e so hd e2 hm hw h6 hk hws
    go_enter Tryz.func53, Tryz.ntmps53
    go_wp2_with (first
      | (go_at_call 67; refine (H1.out _).mono ?_; rintro e w2 ⟨rfl, hww⟩; have hww := hww.symm; subst hww)
      | (go_at_call 66; refine (H2.out _).mono ?_; rintro e w2 ⟨rfl, hww⟩; have hww := hww.symm; subst hww))
    clear c0
    go_loopw [7, 51] (fun tp i wr => ∃ (p : Nat) (o : Option ST), p ≤ kids.length ∧ i = .int .i64 p ∧ Hid (VL kids p o ∧ RO (fr m w.heap.size wr none) tp o ∧ Below w.heap.size w wr)) (fun _ i _ => kids.length - (intOf i).toNat)
    case atStart => exact ⟨0, none, Nat.zero_le _, rfl, vl_zero _, rfl, Below.refl _ _⟩
    case round =>
      obtain ⟨p, o, hp, rfl, hI⟩ := hrel
      have HMW := Lib.hid (HM.out.trans (mleU hI.out.2.2))
      have c0 := ucell_le _ _ (HMW.out _ _ HC0.out)
      have c1 := ucell_le _ _ (HMW.out _ _ HC1.out)
      by_cases hlt : p < kids.length
      · have hpx : p < xs.length := by have := HL.out; omega
        have hpp : p < ps.length := by have := HP.out; omega
        obtain ⟨rb, off, ea, hx0⟩ := HRR.out.at (show p < (ps.map fun p => Value.pointer (some ⟨p, 0, none⟩)).length by simpa using hpp)
        rw [List.getElem_map] at hx0
        subst ea
        have hxr := HE.out p hpx hlt
        have q0 := ucell_le _ _ (HMW.out _ _ hx0)
        have q1 := ucell_le _ _ (HMW.out _ _ (HE1.out p hpp hpx))
        obtain ⟨T, u, hs⟩ := hxr.shape'
        rw [hs] at hxr q1
        have HX := Lib.hid (show RO (fr m w.heap.size wr none) (.iface T u) (some kids[p]) from hxr.mono (fr_old HLO.out))
        clear hxr hs hx0
        go_wp2_with (go_at_call 72; refine (or_any hI.out.2.1 HX.out (fr_leU HMW.out) (by have h1 := hI.out.1.2; have h2 := sumW_take hlt; have h3 := sumW_drop kids (p + 1); have h4 := HN.out; have h5 := OW_le kids[p]; rw [show OWo (some kids[p]) = OW kids[p] from rfl]; omega)).mono ?_; rintro e w6 ⟨y2, o2, ho, rfl, hr, hb⟩; have HO := Lib.hid ho; have HR2 := Lib.hid (hr.mono (fr_trans HLO.out hI.out.2.2.size hb)); have HB6 := Lib.hid (bl_trans hI.out.2.2 hb); clear ho hr hb)
        go_roundw
        case rel => exact ⟨p + 1, o2, by omega, by go_num, vl_step hlt hI.out.1 HO.out, HR2.out, HB6.out⟩
        case measure => simp [intOf]; omega
      · obtain rfl : p = kids.length := by omega
        rcases HD.out with ⟨rfl, em⟩ | ⟨q, rfl, hd1, hd2, hq⟩
        · have HEM := Lib.hid em
          clear em
          go_wp2
          go_ret
          exact ⟨_, o, HFIN.out _ _ hI.out.1 (.inl ⟨HEM.out, rfl⟩), rfl, hI.out.2.1, hI.out.2.2⟩
        · obtain ⟨kv, vv, rfl⟩ : ∃ kv vv, ds = [kv, vv] := by
            match ds, hd1 with
            | [kv, vv], _ => exact ⟨kv, vv, rfl⟩
          obtain ⟨d, d', em⟩ : ∃ d d', more = [d, d'] := by
            match more, hd2 with
            | [d, d'], _ => exact ⟨d, d', rfl⟩
          · have HKV := Lib.hid (show RT m vv d' from by
              have h := HE2.out 1 (by simp) (by omega)
              have e : more[1]'(by omega) = d' := by simp only [em]; rfl
              rw [e] at h; exact h)
            have HEM := Lib.hid em
            clear em hd1 hd2
            have c2 := ucell_le _ _ (HMW.out _ _ (hq 1 (by simp)))
            have HX := Lib.hid (show RO (fr m w.heap.size wr none) vv (some d') from HKV.out.mono (fr_old HLO.out))
            obtain ⟨T, u, hs⟩ := HKV.out.shape'
            simp only [List.getElem_cons_succ, List.getElem_cons_zero] at c2
            subst hs
            clear hq
            go_wp2_with (go_at_call 72; refine (or_any hI.out.2.1 HX.out (fr_leU HMW.out) (by have h1 := hI.out.1.2; have h2 := OW_le d'; have h4 := HN.out; rw [List.take_length] at h1; rw [show OWo (some d') = OW d' from rfl]; rw [HEM.out] at h4; simp [SumW] at h1 h4; omega)).mono ?_; rintro e w6 ⟨y2, o2, ho, rfl, hr, hb⟩; have HO := Lib.hid ho; have HR2 := Lib.hid (hr.mono (fr_trans HLO.out hI.out.2.2.size hb)); have HB6 := Lib.hid (bl_trans hI.out.2.2 hb); clear ho hr hb)
            go_ret
            exact ⟨_, o2, HFIN.out _ _ hI.out.1 (.inr ⟨d, d', HEM.out, HO.out⟩), rfl, HR2.out, HB6.out⟩
  | _ => exact absurd h6 (by simp [ST.kind])
theorem EW.kind {v u : Vl} (h : EW v u) : v.kind = 5 ∨ v.kind = 6 := h.1
theorem keys_base {s : ST} (h8 : s.kind ≠ 8) (hn : NT s) (hw : WS s ≤ 100000) : AskC 52 s (AskR EK s) := by
  have hflat : ∀ s : ST, s.kind = 1 ∨ s.kind = 2 ∨ s.kind = 3 ∨ s.kind = 4 → AskC 52 s (AskR EK s) := fun s hk => askC_slq fun m v w h hm => (keys_flat h hk).mono fun e w' ⟨y, o, ho, h⟩ => ⟨y, o, by subst ho; exact askR_flat (fun v u => EK.kind) hk, h⟩
  cases hn with
  | null => exact hflat _ (by simp [ST.kind])
  | bool => exact hflat _ (by simp [ST.kind])
  | num => exact hflat _ (by simp [ST.kind])
  | str => exact hflat _ (by simp [ST.kind])
  | arr _ _ _ => exact askC_slq fun m v w h hm => (keys_arr h rfl).mono fun e w' ⟨y, o, ho, h⟩ => ⟨y, o, by subst ho; exact askK_arr rfl, h⟩
  | obj _ _ _ _ _ => exact fun m v w h hm => keys_obj h rfl hm hw
  | set ht => exact askC_slq fun m v w h hm => (keys_set h hm).mono fun e w' ⟨y, o, ho, h⟩ => ⟨y, o, by subst ho; exact askR_set, h⟩
  | any _ => exact absurd rfl h8
theorem vals_base {s : ST} (h8 : s.kind ≠ 8) (hn : NT s) (hw : WS s ≤ 100000) : AskC 53 s (AskR EW s) := by
  have hflat : ∀ s : ST, s.kind = 1 ∨ s.kind = 2 ∨ s.kind = 3 ∨ s.kind = 4 → AskC 53 s (AskR EW s) := fun s hk => askC_slq fun m v w h hm => (vals_flat h hk).mono fun e w' ⟨y, o, ho, h⟩ => ⟨y, o, by subst ho; exact askR_flat (fun v u => EW.kind) hk, h⟩
  cases hn with
  | null => exact hflat _ (by simp [ST.kind])
  | bool => exact hflat _ (by simp [ST.kind])
  | num => exact hflat _ (by simp [ST.kind])
  | str => exact hflat _ (by simp [ST.kind])
  | arr _ _ _ => exact fun m v w h hm => vals_arr h rfl hm hw
  | obj _ _ _ _ _ => exact fun m v w h hm => vals_obj h rfl hm hw
  | set ht => exact askC_slq fun m v w h hm => (vals_set h hm).mono fun e w' ⟨y, o, ho, h⟩ => ⟨y, o, by subst ho; exact askR_set, h⟩
  | any _ => exact absurd rfl h8
theorem keys_all {s : ST} (hn : NT s) (hna : Na s) (hw : WS s ≤ 50000) : AskC 52 s (AskR EK s) := by
  by_cases h8 : s.kind = 8
  · cases hn with
    | @any l hk =>
      refine keys_anyC (by have := OW_le (.mk 8 [] l []); rw [ow_8] at this; omega) fun k hkl => ?_
      exact keys_base (hna.out.1 rfl k hkl) (hk k hkl) (by have := ws_kid' (kd := 8) (ks := []) (more := []) (.inl hkl); omega)
    | _ => exact absurd h8 (by simp [ST.kind])
  · exact keys_base h8 hn (by omega)
theorem vals_all {s : ST} (hn : NT s) (hna : Na s) (hw : WS s ≤ 50000) : AskC 53 s (AskR EW s) := by
  by_cases h8 : s.kind = 8
  · cases hn with
    | @any l hk =>
      refine vals_anyC (by have := OW_le (.mk 8 [] l []); rw [ow_8] at this; omega) fun k hkl => ?_
      exact vals_base (hna.out.1 rfl k hkl) (hk k hkl) (by have := ws_kid' (kd := 8) (ks := []) (more := []) (.inl hkl); omega)
    | _ => exact absurd h8 (by simp [ST.kind])
  · exact vals_base h8 hn (by omega)

end Go.Proofs.YtaglgokeejjagaaGreat
/- 'Keys' and 'Values' of the thin package; what the law asks of an entry. -/
namespace Go.Proofs.YtaglgokeejjagaaGreat
set_option linter.unusedVariables false
set_option linter.unusedSimpArgs false
open Go.RowKit Go.Sort

end Go.Proofs.YtaglgokeejjagaaGreat
