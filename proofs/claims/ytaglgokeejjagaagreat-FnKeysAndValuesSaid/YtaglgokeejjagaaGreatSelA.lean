/- 'Select' at arrays and numbers; at objects and their static properties. -/
import Derived.Test.YtaglgokeejjagaaGreatBSr
import Derived.Test.YtaglgokeejjagaaGreatNum
import Derived.Test.YtaglgokeejjagaaGreatObjQ
namespace Go.Proofs.YtaglgokeejjagaaGreat
set_option linter.unusedVariables false
set_option linter.unusedSimpArgs false
open Go.RowKit Go.Sort

theorem ak_map (ks : List AK) : (ks.map kyOf).map akOf = ks := by
  rw [List.map_map]; exact (List.map_congr_left (g := id) (fun k _ => akOf_kyOf k)).trans (List.map_id _)
/-- A type or none, in memory. -/
def RO (m : Mem) (r : Value) : Option ST → Prop
  | none => r = .nilIface
  | some s => RT m r s
theorem RO.mono {m m' : Mem} {r : Value} {o : Option ST} (h : RO m r o) (hm : MLe m m') : RO m' r o := by
  cases o with
  | none => exact h
  | some s => exact RT.mono hm h
def OsQ (m : Mem) (o : Option ST) (w : World) (e : Ending) (w' : World) : Prop := ∃ r, e = .returned r ∧ RO m r o ∧ Gr w w'
/-- The item with a number. -/
def arrAt (l more : List ST) (i : Nat) : Option ST := if h : i < l.length then some l[i] else more.head?

set_option maxHeartbeats 4000000 in
set_option maxRecDepth 100000 in
theorem asel_any {m : Mem} {w : World} {b c : Nat} {a : Option Addr} {xs ds : List Value} {l more : List ST} {i : Nat} (h0 : m ⟨b, 0, none⟩ = some (.slice a l.length c)) (h1 : m ⟨b, 1, none⟩ = some (ds.headD .nilIface)) (lk : lenOk l.length c) (hl : xs.length = l.length)
    (r : RowX m a xs) (e : ∀ i (h1 : i < xs.length) (h2 : i < l.length), RT m xs[i] l[i]) (hd : ds.length = more.length) (h2 : more.length ≤ 1) (e2 : ∀ i (h1 : i < ds.length) (h2 : i < more.length), RT m ds[i] more[i]) (hm : MLe m (ucell w)) (hi : i ≤ 1000000) :
    Calls Tryz.prog 57 #[.pointer (some ⟨b, 0, none⟩), .int .i64 i] w (OsQ m (arrAt l more i) w) := by
  obtain ⟨l1, l2⟩ := lk
  have c0 := ucell_le _ _ (hm _ _ h0)
  by_cases hlt : i < l.length
  · obtain ⟨rb, off, ea, hx0⟩ := rowX_get r (show i < xs.length by omega)
    subst ea
    have hx1 := e i (by omega) hlt
    obtain ⟨T, u, hs⟩ := hx1.shape'
    have z0 := ucell_le _ _ (hm _ _ hx0)
    rw [hs] at z0
    have HX := Lib.hid (show arrAt l more i = some l[i] by unfold arrAt; rw [dif_pos hlt])
    have HR := Lib.hid (show RT m (.iface T u) l[i] by rw [← hs]; exact hx1)
    clear hx1 hs hx0 r e hd h2 e2 hm h0 h1
    go_enter Tryz.func57, Tryz.ntmps57
    go_wp2
    go_ret
    exact ⟨_, rfl, by rw [HX.out]; exact HR.out, Gr.refl _⟩
  · match more, ds, hd, h2, e2, h1 with
    | [], [], _, _, _, h1 =>
      have c1 := ucell_le _ _ (hm _ _ h1)
      have HX := Lib.hid (show arrAt l [] i = none by unfold arrAt; rw [dif_neg hlt]; rfl)
      simp only [List.headD_nil] at c1
      clear r e hm h0 h1
      go_enter Tryz.func57, Tryz.ntmps57
      go_wp2
      go_ret
      exact ⟨_, rfl, by rw [HX.out]; rfl, Gr.refl _⟩
    | [d], [dv], _, _, e2, h1 =>
      have c1 := ucell_le _ _ (hm _ _ h1)
      have hx1 : RT m dv d := e2 0 (by simp) (by simp)
      obtain ⟨T, u, hs⟩ := hx1.shape'
      simp only [List.headD_cons] at c1
      rw [hs] at c1
      have HX := Lib.hid (show arrAt l [d] i = some d by unfold arrAt; rw [dif_neg hlt]; rfl)
      have HR := Lib.hid (show RT m (.iface T u) d by rw [← hs]; exact hx1)
      clear r e hm h0 h1 e2 hx1 hs
      go_enter Tryz.func57, Tryz.ntmps57
      go_wp2
      go_ret
      exact ⟨_, rfl, by rw [HX.out]; exact HR.out, Gr.refl _⟩
    | _ :: _ :: _, _, _, h2, _, _ => simp at h2
    | [], _ :: _, hd, _, _, _ => simp at hd
    | [_], [], hd, _, _, _ => simp at hd
    | [_], _ :: _ :: _, hd, _, _, _ => simp at hd

set_option maxHeartbeats 4000000 in
set_option maxRecDepth 100000 in
theorem sel_arr {m : Mem} {w : World} {v : Value} {l more : List ST} {tx : ByteArray} {i : Nat} (h : RT m v (.mk 5 [] l more)) (ht : tx.data.toList = digs i) (hi : i ≤ 1000000) (hm : MLe m (ucell w)) :
    Calls Tryz.prog 45 #[v, .iface 119 (.string tx)] w (OsQ m (arrAt l more i) w) := by
  have H1 := Lib.hid (unwrap_any h)
  have H2 := Lib.hid (unwrapR_any h)
  cases h with
  | @arr b c a xs ds kids more h0 h1 lk hl r e hd h2 e2 =>
    have HI := Lib.hid (fun W => int64_any ht hi W)
    have HA := Lib.hid (fun (W : World) (hW : MLe m (ucell W)) => asel_any (w := W) (i := i) h0 h1 lk hl r e hd h2 e2 hW hi)
    have HM := Lib.hid hm
    clear h0 h1 lk hl r e hd h2 e2 hm
    go_enter Tryz.func45, Tryz.ntmps45
    go_wp2_with (first | (go_at_call 67; refine (H1.out _).mono ?_; rintro e w2 ⟨rfl, hww⟩; have hww := hww.symm; subst hww) | (go_at_call 66; refine (H2.out _).mono ?_; rintro e w2 ⟨rfl, hww⟩; have hww := hww.symm; subst hww) | (go_at_call 68; refine (HI.out _).mono ?_; rintro e w2 ⟨rfl, hg⟩; have HG := Lib.hid hg; clear hg) | (go_at_call 57; refine (HA.out _ (HM.out.trans (mleU HG.out.below))).mono ?_; rintro e w3 ⟨r, rfl, hr, hg3⟩; have HR := Lib.hid hr; have HG3 := Lib.hid hg3; clear hr hg3))
    go_ret
    exact ⟨_, rfl, HR.out, HG.out.trans HG3.out⟩

set_option maxHeartbeats 4000000 in
set_option maxRecDepth 100000 in
theorem osel_yes {m : Mem} {w : World} {b c : Nat} {a : Option Addr} {ps : List Nat} {xs : List Value} {ks : List AK} {l : List ST} {k : AK} {j : Nat} (h0 : m ⟨b, 0, none⟩ = some (.slice a l.length c)) (lk : lenOk l.length c) (hp : ps.length = l.length) (hx : xs.length = l.length) (hk : ks.length = l.length)
    (r : RowX m a (ps.map fun p => .pointer (some ⟨p, 0, none⟩))) (e0 : ∀ i (h : i < ps.length) (h1 : i < ks.length), m ⟨ps[i], 0, none⟩ = some ks[i].v) (e1 : ∀ i (h : i < ps.length) (h1 : i < xs.length), m ⟨ps[i], 1, none⟩ = some xs[i])
    (e : ∀ i (h1 : i < xs.length) (h2 : i < l.length), RT m xs[i] l[i]) (so : ks.Pairwise AK.lt) (hm : MLe m (ucell w)) (hn : l.length < 1000000000) (hj : j < l.length) (hkj : ks[j]'(by omega) = k) :
    Calls Tryz.prog 69 #[.pointer (some ⟨b, 0, none⟩), k.v] w (OsQ m (some l[j]) w) := by
  have HB := Lib.hid (fun (W : World) (hW : MLe m (ucell W)) => show Calls Tryz.prog 102 #[.slice a l.length c, k.v, .func (.func 103) #[] #[]] W (BpQ ks k W) from by
    rw [← hk] at lk ⊢; exact bsP_any lk (by omega) r e0 so hW (by omega))
  have HJ := Lib.hid (show ∀ i b, (b = true → ∃ h : i < ks.length, ks[i] = k) → (b = false → k ∉ ks) → b = true ∧ i = j from fun i b h1 h2 => by
    cases b with
    | false => exact absurd (by rw [← hkj]; exact List.getElem_mem _) (h2 rfl)
    | true =>
      obtain ⟨h3, h4⟩ := h1 rfl
      exact ⟨rfl, nodup_inj (AK.nodup so) h3 (by omega) (by rw [h4, hkj])⟩)
  obtain ⟨l1, l2⟩ := lk
  obtain ⟨rb, off, ea, hx0⟩ := rowX_get r (show j < (ps.map fun p => Value.pointer (some ⟨p, 0, none⟩)).length by simp; omega)
  rw [List.getElem_map] at hx0
  subst ea
  have hx1 := e1 j (by omega) (by omega)
  have hr := e j (by omega) hj
  obtain ⟨T, u, hs⟩ := hr.shape'
  rw [hs] at hx1
  generalize ps[j]'(by omega) = p at hx0 hx1
  have HR := Lib.hid (show RT m (.iface T u) l[j] by rw [← hs]; exact hr)
  have H0 := Lib.hid h0
  have H1 := Lib.hid hx0
  have H2 := Lib.hid hx1
  have HM := Lib.hid hm
  have c0 := ucell_le _ _ (hm _ _ h0)
  clear hx0 hx1 hr hs h0 hp hx r e0 e1 e so hm hkj hk
  generalize k.v = kv at HB ⊢
  go_enter Tryz.func69, Tryz.ntmps69
  go_wp2_with (go_at_call 102; refine (HB.out _ HM.out).mono ?_; rintro e w2 ⟨i, b, rfl, hi1, hi2, hi3, hg⟩; have HG := Lib.hid hg; obtain ⟨hb1, hb2⟩ := HJ.out i b hi2 hi3; subst hb1 hb2; clear hi1 hi2 hi3 hg; have c1 := HG.out.cell (ucell_le _ _ (HM.out _ _ H0.out)); have c2 := HG.out.cell (ucell_le _ _ (HM.out _ _ H1.out)); have c3 := HG.out.cell (ucell_le _ _ (HM.out _ _ H2.out)))
  go_ret
  exact ⟨_, rfl, HR.out, HG.out⟩
set_option maxHeartbeats 4000000 in
set_option maxRecDepth 100000 in
theorem sel_obj {m : Mem} {w : World} {v : Value} {ks : List AK} {l more : List ST} {k : AK} {j : Nat} (h : RT m v (.mk 6 (ks.map kyOf) l more)) (hj : j < l.length) (hj2 : j < ks.length) (hkj : ks[j] = k) (hm : MLe m (ucell w)) (hn : l.length < 1000000000) :
    Calls Tryz.prog 45 #[v, k.v] w (OsQ m (some l[j]) w) := by
  have H1 := Lib.hid (unwrap_any h)
  have H2 := Lib.hid (unwrapR_any h)
  generalize hs : ST.mk 6 (ks.map kyOf) l more = s at h
  cases h with
  | @obj b c a ps xs ks' kids dv ds more' h0 h1 lk hp hx hk r e0 e1 e so hd e2 =>
    injection hs with _ hs1 hs2 hs3
    subst hs2
    have hks : ks = ks' := by rw [← ak_map ks, hs1, ak_map]
    subst hks
    have HA := Lib.hid (fun (W : World) (hW : MLe m (ucell W)) => osel_yes (w := W) h0 lk hp hx hk r e0 e1 e so hW hn hj hkj)
    have HM := Lib.hid hm
    clear h0 h1 lk hp hx r e0 e1 e so hd e2 hm hkj hs1
    generalize k.v = kv at HA ⊢
    go_enter Tryz.func45, Tryz.ntmps45
    go_wp2_with (first | (go_at_call 67; refine (H1.out _).mono ?_; rintro e w2 ⟨rfl, hww⟩; have hww := hww.symm; subst hww) | (go_at_call 66; refine (H2.out _).mono ?_; rintro e w2 ⟨rfl, hww⟩; have hww := hww.symm; subst hww) | (go_at_call 69; refine (HA.out _ HM.out).mono ?_; rintro e w3 ⟨r, rfl, hr, hg3⟩; have HR := Lib.hid hr; have HG3 := Lib.hid hg3; clear hr hg3))
    go_ret
    exact ⟨_, rfl, HR.out, HG3.out⟩
  | _ => injection hs with h9; exact absurd h9 (by decide)
end Go.Proofs.YtaglgokeejjagaaGreat
