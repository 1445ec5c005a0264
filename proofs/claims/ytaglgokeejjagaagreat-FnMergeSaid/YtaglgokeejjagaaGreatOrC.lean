/- The empty any type; 'Contains'. -/
import Derived.Test.YtaglgokeejjagaaGreatBSr
import Derived.Test.YtaglgokeejjagaaGreatISel
import Derived.Test.YtaglgokeejjagaaGreatApp
namespace Go.Proofs.YtaglgokeejjagaaGreat
set_option linter.unusedVariables false
set_option linter.unusedSimpArgs false
open Go.RowKit Go.Sort

def TopQ (w : World) (e : Ending) (w' : World) : Prop := ∃ a, e = .returned (.iface 110 (.slice a 0 0)) ∧ Gr w w'
set_option maxHeartbeats 4000000 in
set_option maxRecDepth 100000 in
theorem top_any (w : World) : Calls Tryz.prog 71 #[] w (TopQ w) := by
  go_enter Tryz.func71, Tryz.ntmps71
  go_wp2
  go_ret
  exact ⟨_, rfl, (Gr.refl _).alloc _⟩
theorem rowX_nil (m : Mem) (a : Option Addr) : RowX m a [] := fun h => absurd h (Nat.lt_irrefl _)
theorem top_rt (m : Mem) (a : Option Addr) : RT m (.iface 110 (.slice a 0 0)) (.mk 8 [] [] []) :=
  .any (kids := []) (xs := []) len0 rfl (rowX_nil m a) (fun i h => absurd h (Nat.not_lt_zero _))

/-- What 'Contains' of an any type tells. -/
def CnQ (l : List ST) (s : ST) (w : World) (e : Ending) (w' : World) : Prop :=
  ∃ b, e = .returned (.bool b) ∧ (b = true → s ∈ l ∨ l = []) ∧ (b = false → l ≠ [] ∧ (SrtL l → s ∉ l)) ∧ Gr w w'
theorem RT.shape8 {m : Mem} {v : Value} {t : ST} (r : RT m v t) : ∃ T y, v = .iface T y ∧ (T = 90 ∨ T = 91 ∨ T = 92 ∨ T = 93 ∨ T = 94 ∨ T = 80 ∨ T = 108 ∨ T = 110) := by
  cases r <;> exact ⟨_, _, rfl, by simp⟩
set_option maxHeartbeats 4000000 in
set_option maxRecDepth 100000 in
theorem contains70 {m : Mem} {w : World} {a : Option Addr} {c : Nat} {xs : List Value} {l : List ST} {y : Value} {t : ST} (lk : lenOk l.length c) (hl : xs.length = l.length) (r : RowX m a xs) (e : ∀ i (h1 : i < xs.length) (h2 : i < l.length), RT m xs[i] l[i]) (hy : RT m y t) (hm : MLe m (ucell w)) (hn : l.length < 1000000000) :
    Calls Tryz.prog 70 #[.slice a l.length c, y] w (CnQ l t w) := by
  have HB := Lib.hid (fun (W : World) (hW : MLe m (ucell W)) => bsT_any (w := W) lk hl r e hy hW hn)
  have HM := Lib.hid hm
  obtain ⟨T, u, rfl, hT⟩ := hy.shape8
  clear hm lk hl r e hy hn
  by_cases h0 : l = []
  · subst h0
    rcases hT with rfl | rfl | rfl | rfl | rfl | rfl | rfl | rfl
    all_goals
      go_enter Tryz.func70, Tryz.ntmps70
      go_wp2_with (go_at_call 105; refine (HB.out _ HM.out).mono ?_; rintro e w2 ⟨i, b, rfl, hi1, hi2, hi3, hg⟩; have HG := Lib.hid hg; clear hi1 hi2 hi3 hg; cases b)
      all_goals
        go_ret
        exact ⟨true, rfl, fun _ => .inr rfl, (fun h => by cases h), HG.out⟩
  · have hx : ((l.length : Int) == 0) = false := by simpa using h0
    have hx2 : (l.length == 0) = false := by simpa using h0
    have HL := Lib.hid h0
    clear h0
    rcases hT with rfl | rfl | rfl | rfl | rfl | rfl | rfl | rfl
    all_goals
      go_enter Tryz.func70, Tryz.ntmps70
      go_wp2_with (go_at_call 105; refine (HB.out _ HM.out).mono ?_; rintro e w2 ⟨i, b, rfl, hi1, hi2, hi3, hg⟩; have HG := Lib.hid hg; have HI2 := Lib.hid hi2; have HI3 := Lib.hid hi3; clear hi1 hi2 hi3 hg; cases b)
      all_goals
        go_ret
        first
          | exact ⟨false, rfl, (fun h => by cases h), fun _ => ⟨HL.out, fun hs => by first | exact HI3.out hs rfl | exact HI3.out hs trivial | exact HI3.out hs⟩, HG.out⟩
          | exact ⟨true, rfl, fun _ => .inl (by obtain ⟨h, e⟩ := (show ∃ h : i < l.length, l[i] = t from by first | exact HI2.out rfl | exact HI2.out trivial | exact HI2.out); rw [← e]; exact List.getElem_mem _), (fun h => by cases h), HG.out⟩

end Go.Proofs.YtaglgokeejjagaaGreat
/- 'append' of the rest of a row of types onto a row of the call's own. -/
namespace Go.Proofs.YtaglgokeejjagaaGreat
set_option linter.unusedVariables false
set_option linter.unusedSimpArgs false
open Go.RowKit Go.Sort Go.Proofs.YtaglgokeejjagaaGreatW.PrintLast

theorem Own.appT {m : Mem} {B e : Nat} {w w' : World} {v v' : Value} {l ts : List ST} {xs ys : List Value} (hl : Lo m B) (ho : w.ownsRow B e 1 v l.length xs) (hx : ∀ i (h : i < l.length), ET (fr m B w v.ownBlock) ((xs.drop (i * 1)).take 1) l[i])
    (hk : ys.length = ts.length) (hm : ∀ i (h1 : i < ys.length) (h2 : i < ts.length), RT m ys[i] ts[i])
    (ho' : w'.ownsRow B e 1 v' (l.length + ts.length) (xs ++ ys)) (hg : w.grownBy w' v.ownBlock) (hat : v'.ownBlock = v.ownBlock ∨ v'.ownBlock = some w.heap.size) : Own ET m e 1 B w' v' (l ++ ts) := by
  have hat' : v'.ownBlock = v.ownBlock ∨ ∃ k, v'.ownBlock = some k ∧ w.heap.size ≤ k := hat.imp id (fun e => ⟨_, e, Nat.le_refl _⟩)
  refine ⟨xs ++ ys, by rw [List.length_append]; exact ho', fun i hi => ?_⟩
  have hxl : xs.length = l.length * 1 := ho.1
  by_cases h : i < l.length
  · have e1 : (l ++ ts)[i] = l[i] := List.getElem_append_left h
    have e2 : ((xs ++ ys).drop (i * 1)).take 1 = (xs.drop (i * 1)).take 1 := by
      rw [List.drop_append_of_le_length (by omega), List.take_append_of_le_length (by rw [List.length_drop]; omega)]
    rw [e1, e2]
    exact em_ET _ _ _ _ (fr_step (fun k _ h2 h3 => hg.block k h2 h3) hat') (hx i h)
  · rw [List.length_append] at hi
    have hi2 : i - l.length < ts.length := by omega
    have e1 : (l ++ ts)[i] = ts[i - l.length] := List.getElem_append_right (by omega)
    have e2 : ((xs ++ ys).drop (i * 1)).take 1 = [ys[i - l.length]'(by omega)] := by
      rw [show i * 1 = xs.length + (i - l.length) by omega, ← List.drop_drop, List.drop_left, List.drop_eq_getElem_cons (by omega)]
      rfl
    rw [e1, e2]
    exact ⟨_, rfl, (hm _ (by omega) hi2).mono (fr_old hl)⟩
theorem wpList_catT {P : Program} {w : World} {ops : Array Oper} {rest : List Oper} {o : Oper} {a : Act} {Q : Exit → Act → World → Prop} (hgd : o.guard = none) (s x : Operand) (t : TypeId)
    (ho : o.op = .call { callee := .builtin .append, args := #[s, x], argTypes := #[t, t] }) {e bytes : Nat} (hT : SlT P t e 1 bytes) {m : Mem} {B : Nat} (hl : Lo m B) (hmw : MLe m w.cell?)
    (v : Value) (l : List ST) (hs : a.eval s = v) (hown : Own ET m e 1 B w v l) (b off c : Nat) (ts : List ST) (ys : List Value) (n : Nat) (hnl : ts.length = n) (hx : a.eval x = .slice (some ⟨b, off, none⟩) n c) (hk : ys.length = ts.length)
    (hc : ∀ j (h : j < ys.length), m ⟨b, off + j, none⟩ = some ys[j]) (hm : ∀ i (h1 : i < ys.length) (h2 : i < ts.length), RT m ys[i] ts[i])
    (h63 : l.length + ts.length ≤ maxLen) (hbytes : (l.length + ts.length) * bytes ≤ 140737488355328) (hbase : B ≤ w.heap.size)
    (h : ∀ p q r w', Own ET m e 1 B w' (.slice p q r) (l ++ ts) → w.grownBy w' v.ownBlock → (∀ k, v.ownBlock = some k → B ≤ k) → wpList P ops Q rest (a.put o.dst (.slice p q r)) w') : wpList P ops Q (o :: rest) a w := by
  subst hnl
  have hlt := hown.lt
  obtain ⟨xs, ho1, hx1⟩ := hown
  refine wpList_plain hgd fun _ hK => wp_app s x t ho hT v l.length xs hs ho1 ⟨b, off, none⟩ ts.length c ys hx (by omega) (fun j u hj => ?_) (fun u hu => ?_) h63 hbytes hbase fun v' w' g1 g2 g3 => ?_
  · obtain ⟨h1, rfl⟩ := List.getElem?_eq_some_iff.1 hj
    rw [add0]
    exact hmw _ _ (hc j h1)
  · obtain ⟨i, hi, rfl⟩ := List.getElem_of_mem hu
    obtain ⟨T, y, e⟩ := (hm i hi (by omega)).shape'
    rw [e]; rfl
  · obtain ⟨p, q, r, rfl⟩ : ∃ p q r, v' = .slice p q r := by
      rcases g1.2 with ⟨rfl, _⟩ | ⟨g, cap, cur, rfl, _⟩ <;> exact ⟨_, _, _, rfl⟩
    exact hK _ _ (h p q r w' (Own.appT hl ho1 hx1 hk hm g1 g2 g3) g2 (fun k e => (hlt k e).1))

/-- How much there is in a type, an any type's own place not counted. -/
def SumW (l : List ST) : Nat := (l.map WS).sum
def OW (s : ST) : Nat := if s.kind = 8 then SumW s.kids else WS s
theorem OW_le (s : ST) : OW s ≤ WS s := by
  unfold OW SumW
  split
  · have := WS_eq s; omega
  · exact Nat.le_refl _
theorem WS_ow (s : ST) (h : NT s) : WS s ≤ OW s + 1 := by
  unfold OW SumW
  split
  · rename_i hk
    cases h with
    | any h1 => rw [WS]; simp [ST.kids]; omega
    | _ => exact absurd hk (by simp [ST.kind])
  · omega
def InL (l : List ST) (v : Vl) : Prop := l = [] ∨ ∃ k ∈ l, InP k v
theorem inL_iff {l : List ST} {v : Vl} : InP (.mk 8 [] l []) v ↔ InL l v := by
  rw [inP_any rfl]
  simp only [ST.kids, InL]
  constructor
  · rintro (h | ⟨i, h, hi⟩)
    · exact .inl (List.length_eq_zero_iff.1 h)
    · exact .inr ⟨_, List.getElem_mem h, hi⟩
  · rintro (rfl | ⟨k, hk, h⟩)
    · exact .inl rfl
    · obtain ⟨i, hi, rfl⟩ := List.getElem_of_mem hk
      exact .inr ⟨i, hi, h⟩
theorem inL_sub {l l' : List ST} (h : l ≠ []) (hs : ∀ k ∈ l, k ∈ l') {v : Vl} (hv : InL l v) : InL l' v := by
  rcases hv with h1 | ⟨k, hk, h1⟩
  · exact absurd h1 h
  · exact .inr ⟨k, hs k hk, h1⟩
theorem sumW_append (l l' : List ST) : SumW (l ++ l') = SumW l + SumW l' := by simp [SumW]
theorem sumW_len (l : List ST) : l.length ≤ SumW l := sum_ge WS WS_pos l
theorem sumW_take {l : List ST} {i : Nat} (h : i < l.length) : SumW (l.take (i + 1)) = SumW (l.take i) + WS l[i] := by
  rw [List.take_succ_eq_append_getElem h, sumW_append]; simp [SumW]
theorem sumW_drop (l : List ST) (i : Nat) : SumW (l.take i) + SumW (l.drop i) = SumW l := by
  rw [← sumW_append, List.take_append_drop]
end Go.Proofs.YtaglgokeejjagaaGreat
/- 'Union' of two any types. -/
namespace Go.Proofs.YtaglgokeejjagaaGreat
set_option linter.unusedVariables false
set_option linter.unusedSimpArgs false
open Go.RowKit Go.Sort Go.Shelf

/-- An any type is given back whose types answer to P. -/
def AnQ (m : Mem) (P : List ST → Prop) (w : World) (e : Ending) (w' : World) : Prop :=
  ∃ p c r, P r ∧ e = .returned (.slice p r.length c) ∧ RT (fr m w.heap.size w' none) (.iface 110 (.slice p r.length c)) (.mk 8 [] r []) ∧ Below w.heap.size w w'
def UnP (l l' r : List ST) : Prop := (∀ v, InL l v ∨ InL l' v → InL r v) ∧ SumW r ≤ SumW l + SumW l'
theorem unP_of {l l' r : List ST} (h : l ≠ []) (h' : l' ≠ []) (h1 : ∀ k ∈ l, k ∈ r) (h2 : ∀ k ∈ l', k ∈ r) (hs : SumW r ≤ SumW l + SumW l') : UnP l l' r :=
  ⟨fun v hv => hv.elim (inL_sub h h1) (inL_sub h' h2), hs⟩
theorem Own.anQ {m : Mem} {w w' : World} {v : Value} {r : List ST} {P : List ST → Prop} (hown : Own ET m 74 1 w.heap.size w' v r) (hb : Below w.heap.size w w') (hp : P r) : AnQ m P w (.returned v) w' := by
  obtain ⟨a, c, xs, rfl, lk, hl, hr, he⟩ := hown.types
  exact ⟨a, c, r, hp, rfl, .any lk hl hr he, hb⟩
set_option maxHeartbeats 4000000 in
set_option maxRecDepth 100000 in
theorem union_zero {m : Mem} {w : World} {a : Option Addr} {c : Nat} {l' : List ST} {y : Value} {a' : Option Addr} {c' : Nat} (h : RT m (.iface 110 (.slice a 0 c)) (.mk 8 [] [] [])) (hm : MLe m (ucell w)) :
    Calls Tryz.prog 116 #[.slice a 0 c, .slice a' l'.length c'] w (AnQ m (UnP [] l') w) := by
  go_enter Tryz.func116, Tryz.ntmps116
  go_wp2
  go_ret
  exact ⟨a, c, [], ⟨fun _ _ => .inl rfl, by simp [SumW]⟩, rfl, h.mono (fr_old (fun a x hx => ucell_lt (hm a x hx))), Below.refl _ _⟩
set_option maxHeartbeats 4000000 in
set_option maxRecDepth 100000 in
theorem union_zero' {m : Mem} {w : World} {a : Option Addr} {c : Nat} {l : List ST} {a' : Option Addr} {c' : Nat} (hl : l ≠ []) (h : RT m (.iface 110 (.slice a' 0 c')) (.mk 8 [] [] [])) (hm : MLe m (ucell w)) :
    Calls Tryz.prog 116 #[.slice a l.length c, .slice a' 0 c'] w (AnQ m (UnP l []) w) := by
  have hx : ((l.length : Int) == 0) = false := by simpa using hl
  have hx2 : (l.length == 0) = false := by simpa using hl
  clear hl
  go_enter Tryz.func116, Tryz.ntmps116
  go_wp2
  go_ret
  exact ⟨a', c', [], ⟨fun _ _ => .inl rfl, by simp [SumW]⟩, rfl, h.mono (fr_old (fun a x hx => ucell_lt (hm a x hx))), Below.refl _ _⟩
set_option maxHeartbeats 4000000 in
set_option maxRecDepth 100000 in
theorem union_main {m : Mem} {w : World} {a a' : Option Addr} {c c' : Nat} {xs ys : List Value} {l l' : List ST} (hl0 : l ≠ []) (hl0' : l' ≠ []) (lk : lenOk l.length c) (hl : xs.length = l.length) (r : RowX m a xs) (e : ∀ i (h1 : i < xs.length) (h2 : i < l.length), RT m xs[i] l[i])
    (lk' : lenOk l'.length c') (hl' : ys.length = l'.length) (r' : RowX m a' ys) (e' : ∀ i (h1 : i < ys.length) (h2 : i < l'.length), RT m ys[i] l'[i]) (hm : MLe m (ucell w)) (hn : l.length + l'.length ≤ 3000000) :
    Calls Tryz.prog 116 #[.slice a l.length c, .slice a' l'.length c'] w (AnQ m (UnP l l') w) := by
  have hx : ((l.length : Int) == 0) = false := by simpa using hl0
  have hx2 : (l.length == 0) = false := by simpa using hl0
  have hy : ((l'.length : Int) == 0) = false := by simpa using hl0'
  have hy2 : (l'.length == 0) = false := by simpa using hl0'
  obtain ⟨k1, k2⟩ := lk
  obtain ⟨k1', k2'⟩ := lk'
  obtain ⟨b, off, rfl, z1⟩ := rowX_get r (show 0 < xs.length by rw [hl]; exact List.length_pos_iff.2 hl0)
  obtain ⟨b', off', rfl, z2⟩ := rowX_get r' (show 0 < ys.length by rw [hl']; exact List.length_pos_iff.2 hl0')
  have HR := Lib.hid (fun j (hj : j < xs.length) => show m ⟨b, off + j, none⟩ = some xs[j] by obtain ⟨_, _, e, h⟩ := rowX_get r hj; cases e; exact h)
  have HR' := Lib.hid (fun j (hj : j < ys.length) => show m ⟨b', off' + j, none⟩ = some ys[j] by obtain ⟨_, _, e, h⟩ := rowX_get r' hj; cases e; exact h)
  have HE := Lib.hid e
  have HE' := Lib.hid e'
  have HL := Lib.hid hl
  have HL' := Lib.hid hl'
  have HN := Lib.hid hn
  have HM := Lib.hid hm
  have HLO := Lib.hid (lo_of_mle (hm.trans ucell_le))
  have HFIN := Lib.hid (fun (r : List ST) => unP_of (r := r) hl0 hl0')
  have hmix := mix_t
  obtain ⟨i0, hi0, hz0, hz1, hz2⟩ := info_parts info74'
  have HZ2 := Lib.hid hz2
  clear z1 z2 r e r' e' hl hl' hn hm hl0 hl0' hz2
  go_enter Tryz.func116, Tryz.ntmps116
  go_wp2_with (at_make; refine wpList_make_own _ rfl _ _ 110 rfl w.heap.size 74 i0 .nilIface 1 Tryz.underlying110 hi0 hz0 hz1 .i64 .i64 _ (max l.length l'.length) rfl rfl (by omega) (by rw [HZ2.out]; have := HN.out; omega) (by have := HN.out; simp [maxLen]; omega) (Nat.le_refl _) ?_; intro w1 hown1 hg1)
  have HI0 := Lib.hid (show Own ET m 74 1 w.heap.size w1 (.slice (some ⟨w.heap.size, 0, none⟩) 0 (max l.length l'.length)) [] ∧ Below w.heap.size w w1 from ⟨⟨[], hown1, fun i h => absurd h (Nat.not_lt_zero _)⟩, (Below.refl _ _).grown hg1 (Nat.le_refl _) (fun k e => by cases e)⟩)
  clear hown1 hg1
  go_loopw [8, 9, 10] (fun v i j wr => ∃ (p q : Nat) (acc : List ST), p ≤ l.length ∧ q ≤ l'.length ∧ i = .int .i64 p ∧ j = .int .i64 q ∧ Hid (
      Own ET m 74 1 w.heap.size wr v acc ∧ Below w.heap.size w wr ∧ (∀ k ∈ l.take p, k ∈ acc) ∧ (∀ k ∈ l'.take q, k ∈ acc) ∧ SumW acc ≤ SumW (l.take p) + SumW (l'.take q) ∧ acc.length ≤ p + q)) (fun _ i j _ => (l.length - (intOf i).toNat) + (l'.length - (intOf j).toNat))
  case atStart => exact ⟨0, 0, [], Nat.zero_le _, Nat.zero_le _, rfl, rfl, HI0.out.1, HI0.out.2, by simp, by simp, by simp [SumW], by simp⟩
  case round =>
    obtain ⟨p, q, acc, hp, hq, rfl, rfl, hI⟩ := hrel
    have hmw := (HM.out.trans ucell_le).trans (mle_below hI.out.2.1)
    by_cases hlt : p < l.length
    · have hne : (p == l.length) = false := by simp; omega
      have hneI : ((p : Int) == (l.length : Int)) = false := by simp; omega
      by_cases hlt' : q < l'.length
      · have hne' : (q == l'.length) = false := by simp; omega
        have hneI' : ((q : Int) == (l'.length : Int)) = false := by simp; omega
        have hxr := HE.out p (by have := HL.out; omega) hlt
        have hyr := HE'.out q (by have := HL'.out; omega) hlt'
        obtain ⟨T, u, hs⟩ := hxr.shape'
        obtain ⟨T', u', hs'⟩ := hyr.shape'
        have c0 := hmw _ _ (HR.out p (by have := HL.out; omega))
        have c1 := hmw _ _ (HR'.out q (by have := HL'.out; omega))
        rw [hs] at hxr c0
        rw [hs'] at hyr c1
        have HXR := Lib.hid hxr
        have HYR := Lib.hid hyr
        have HMW := Lib.hid hmw
        obtain ⟨n, hnn⟩ : ∃ n, n = cmpT l[p] l'[q] := ⟨_, rfl⟩
        have HC48 := Lib.hid (fun n0 os => show Calls Tryz.prog 48 #[.iface T u, .iface T' u'] (grow (wr.drewN n0) os) (fun e w' => e = .returned (.int .i64 n) ∧ Gr (grow (wr.drewN n0) os) w') from hnn ▸ compare_any l[p] l'[q] m _ _ _ HXR.out HYR.out ((HM.out.trans (mleU hI.out.2.1)).trans (mleU (gr_grow wr n0 os).below)))
        have HEQ := Lib.hid (show n = 0 → l[p] = l'[q] from fun h => (cmpT_zero HXR.out.nt HYR.out.nt).1 (by rw [← hnn, h]))
        have htri := cmpT_tri l[p] l'[q]
        rw [← hnn] at htri
        have C0 := Lib.hid c0
        have C1 := Lib.hid c1
        have A0 := fun n os => (gr_grow wr n os).cell c0
        have B0 := fun n os => (gr_grow wr n os).cell c1
        clear hxr hyr hs hs' hnn hmw c0 c1
        rcases htri with rfl | rfl | rfl
        · skip
          go_wp2_with fail
          refine wp_region_quiet_grown hmix (by kernel_rfl) ?_
          repeat (go_big_quiet_step ((go_at_call 48; with_reducible exact quiet_gr (HC48.out _ _))))
          refine wpQuiet_nil ?_
          intro _ hw'
          obtain ⟨⟨nq, osq⟩, hw''⟩ := hw'
          subst hw''
          have HGW := Lib.hid (gr_grow wr nq osq)
          clear A0 B0
          generalize grow (wr.drewN nq) osq = W at HGW ⊢
          have d0 := HGW.out.cell C0.out
          have d1 := HGW.out.cell C1.out
          go_wp2_with (at_builtin; refine wpList_snoc em_ET rfl _ _ _ rfl rfl _ _ rfl (Snoc.call em_ET hI.out.1 HLO.out HGW.out.below (Below.refl _ _) ⟨_, rfl, HXR.out.mono (fr_old (HLO.out.mono (Nat.le_trans hI.out.2.1.size HGW.out.below.size)))⟩ sl110 rfl (by simp [Value.oneCell']) (by have := HN.out; have := hI.out.2.2.2.2.2; omega) (by have := HN.out; have := hI.out.2.2.2.2.2; simp [maxLen]; omega) hI.out.2.1.size) ?_; intro g' cap w5 hown5 hg5 hv5 hgg5)
          go_roundw
          case rel =>
            have hbE := bl_grown (bl_alloc (bl_trans hI.out.2.1 HGW.out.below) _) hg5 hv5
            obtain ⟨o1, o2, o3, o4, o5, o6⟩ := hI.out
            refine ⟨p + 1, q, acc ++ [l[p]], by omega, hq, by go_num, rfl, hown5, hbE, fun k hk => ?_, fun k hk => List.mem_append_left _ (o4 k hk), ?_, by rw [List.length_append]; simp; omega⟩
            · rw [List.take_succ_eq_append_getElem hlt] at hk
              rcases List.mem_append.1 hk with h | h
              · exact List.mem_append_left _ (o3 k h)
              · exact List.mem_append_right _ h
            · rw [sumW_append, sumW_take hlt]; simp [SumW] at o5 ⊢; omega
          case measure => simp [intOf]; omega
        · skip
          go_wp2_with fail
          refine wp_region_quiet_grown hmix (by kernel_rfl) ?_
          repeat (go_big_quiet_step ((go_at_call 48; with_reducible exact quiet_gr (HC48.out _ _))))
          refine wpQuiet_nil ?_
          intro _ hw'
          obtain ⟨⟨nq, osq⟩, hw''⟩ := hw'
          subst hw''
          have HGW := Lib.hid (gr_grow wr nq osq)
          clear A0 B0
          generalize grow (wr.drewN nq) osq = W at HGW ⊢
          have d0 := HGW.out.cell C0.out
          have d1 := HGW.out.cell C1.out
          go_wp2_with (at_builtin; refine wpList_snoc em_ET rfl _ _ _ rfl rfl _ _ rfl (Snoc.call em_ET hI.out.1 HLO.out HGW.out.below (Below.refl _ _) ⟨_, rfl, HXR.out.mono (fr_old (HLO.out.mono (Nat.le_trans hI.out.2.1.size HGW.out.below.size)))⟩ sl110 rfl (by simp [Value.oneCell']) (by have := HN.out; have := hI.out.2.2.2.2.2; omega) (by have := HN.out; have := hI.out.2.2.2.2.2; simp [maxLen]; omega) hI.out.2.1.size) ?_; intro g' cap w5 hown5 hg5 hv5 hgg5)
          go_roundw
          case rel =>
            have hbE := bl_grown (bl_alloc (bl_trans hI.out.2.1 HGW.out.below) _) hg5 hv5
            obtain ⟨o1, o2, o3, o4, o5, o6⟩ := hI.out
            have heq : l[p] = l'[q] := by first | exact HEQ.out rfl | exact HEQ.out trivial | exact HEQ.out
            refine ⟨p + 1, q + 1, acc ++ [l[p]], by omega, by omega, by go_num, by go_num, hown5, hbE, fun k hk => ?_, fun k hk => ?_, ?_, by rw [List.length_append]; simp; omega⟩
            · rw [List.take_succ_eq_append_getElem hlt] at hk
              rcases List.mem_append.1 hk with h | h
              · exact List.mem_append_left _ (o3 k h)
              · exact List.mem_append_right _ h
            · rw [List.take_succ_eq_append_getElem hlt', ← heq] at hk
              rcases List.mem_append.1 hk with h | h
              · exact List.mem_append_left _ (o4 k h)
              · exact List.mem_append_right _ h
            · rw [sumW_append, sumW_take hlt, sumW_take hlt']; simp [SumW] at o5 ⊢; omega
          case measure => simp [intOf]; omega
        · skip
          go_wp2_with fail
          refine wp_region_quiet_grown hmix (by kernel_rfl) ?_
          repeat (go_big_quiet_step ((go_at_call 48; with_reducible exact quiet_gr (HC48.out _ _))))
          refine wpQuiet_nil ?_
          intro _ hw'
          obtain ⟨⟨nq, osq⟩, hw''⟩ := hw'
          subst hw''
          have HGW := Lib.hid (gr_grow wr nq osq)
          clear A0 B0
          generalize grow (wr.drewN nq) osq = W at HGW ⊢
          have d0 := HGW.out.cell C0.out
          have d1 := HGW.out.cell C1.out
          go_wp2_with (at_builtin; refine wpList_snoc em_ET rfl _ _ _ rfl rfl _ _ rfl (Snoc.call em_ET hI.out.1 HLO.out HGW.out.below (Below.refl _ _) ⟨_, rfl, HYR.out.mono (fr_old (HLO.out.mono (Nat.le_trans hI.out.2.1.size HGW.out.below.size)))⟩ sl110 rfl (by simp [Value.oneCell']) (by have := HN.out; have := hI.out.2.2.2.2.2; omega) (by have := HN.out; have := hI.out.2.2.2.2.2; simp [maxLen]; omega) hI.out.2.1.size) ?_; intro g' cap w5 hown5 hg5 hv5 hgg5)
          go_roundw
          case rel =>
            have hbE := bl_grown (bl_alloc (bl_trans hI.out.2.1 HGW.out.below) _) hg5 hv5
            obtain ⟨o1, o2, o3, o4, o5, o6⟩ := hI.out
            refine ⟨p, q + 1, acc ++ [l'[q]], hp, by omega, rfl, by go_num, hown5, hbE, fun k hk => List.mem_append_left _ (o3 k hk), fun k hk => ?_, ?_, by rw [List.length_append]; simp; omega⟩
            · rw [List.take_succ_eq_append_getElem hlt'] at hk
              rcases List.mem_append.1 hk with h | h
              · exact List.mem_append_left _ (o4 k h)
              · exact List.mem_append_right _ h
            · rw [sumW_append, sumW_take hlt']; simp [SumW] at o5 ⊢; omega
          case measure => simp [intOf]; omega
      · obtain rfl : q = l'.length := by omega
        go_wp2_with (at_builtin; refine wpList_catT rfl _ _ _ rfl sl110 HLO.out hmw u8 acc rfl hI.out.1 b (off + p) (c - p) (l.drop p) (xs.drop p) (l.length - p) (by simp) rfl (by simp [HL.out]) (fun j h => by rw [List.getElem_drop, Nat.add_assoc]; exact HR.out (p + j) (by rw [List.length_drop] at h; omega)) (fun i h1 h2 => by rw [List.getElem_drop, List.getElem_drop]; exact HE.out (p + i) (by rw [List.length_drop] at h1; omega) (by rw [List.length_drop] at h2; omega)) (by have := HN.out; have := hI.out.2.2.2.2.2; rw [List.length_drop]; simp [maxLen]; omega) (by have := HN.out; have := hI.out.2.2.2.2.2; rw [List.length_drop]; omega) hI.out.2.1.size ?_; intro p1 q1 r1 w5 hown5 hg5 hv5)
        go_ret
        obtain ⟨o1, o2, o3, o4, o5, o6⟩ := hI.out
        refine hown5.anQ (bl_grown o2 hg5 hv5) (HFIN.out _ (fun k hk => ?_) (fun k hk => List.mem_append_left _ (o4 k (by rw [List.take_length]; exact hk))) ?_)
        · rw [← List.take_append_drop p l] at hk
          rcases List.mem_append.1 hk with h | h
          · exact List.mem_append_left _ (o3 k h)
          · exact List.mem_append_right _ h
        · have := sumW_drop l p
          rw [List.take_length] at o5
          rw [sumW_append]; omega
    · obtain rfl : p = l.length := by omega
      by_cases hlt' : q < l'.length
      · go_wp2_with (at_builtin; refine wpList_catT rfl _ _ _ rfl sl110 HLO.out hmw u8 acc rfl hI.out.1 b' (off' + q) (c' - q) (l'.drop q) (ys.drop q) (l'.length - q) (by simp) rfl (by simp [HL'.out]) (fun j h => by rw [List.getElem_drop, Nat.add_assoc]; exact HR'.out (q + j) (by rw [List.length_drop] at h; omega)) (fun i h1 h2 => by rw [List.getElem_drop, List.getElem_drop]; exact HE'.out (q + i) (by rw [List.length_drop] at h1; omega) (by rw [List.length_drop] at h2; omega)) (by have := HN.out; have := hI.out.2.2.2.2.2; rw [List.length_drop]; simp [maxLen]; omega) (by have := HN.out; have := hI.out.2.2.2.2.2; rw [List.length_drop]; omega) hI.out.2.1.size ?_; intro p1 q1 r1 w5 hown5 hg5 hv5)
        go_ret
        obtain ⟨o1, o2, o3, o4, o5, o6⟩ := hI.out
        refine hown5.anQ (bl_grown o2 hg5 hv5) (HFIN.out _ (fun k hk => List.mem_append_left _ (o3 k (by rw [List.take_length]; exact hk))) (fun k hk => ?_) ?_)
        · rw [← List.take_append_drop q l'] at hk
          rcases List.mem_append.1 hk with h | h
          · exact List.mem_append_left _ (o4 k h)
          · exact List.mem_append_right _ h
        · have := sumW_drop l' q
          rw [List.take_length] at o5
          rw [sumW_append]; omega
      · obtain rfl : q = l'.length := by omega
        go_wp2_with fail
        go_ret
        have h := hI.out
        rw [List.take_length, List.take_length] at h
        exact h.1.anQ h.2.1 (HFIN.out _ h.2.2.1 h.2.2.2.1 h.2.2.2.2.1)
end Go.Proofs.YtaglgokeejjagaaGreat
/- What a union holds, and what 'Select' gives: plain laws. -/
namespace Go.Proofs.YtaglgokeejjagaaGreat
set_option linter.unusedVariables false
set_option linter.unusedSimpArgs false
open Go.RowKit Go.Sort

/-- What an any type and another type hold. -/
def MgQ (l : List ST) (t : ST) (r : List ST) : Prop := (∀ v, InL l v ∨ InP t v → InL r v) ∧ SumW r ≤ SumW l + OW t
theorem ow_8 (kids : List ST) : OW (.mk 8 [] kids []) = SumW kids := by unfold OW; exact if_pos rfl
theorem ow_o {t : ST} (h : t.kind ≠ 8) : OW t = WS t := by unfold OW; rw [if_neg h]
/-- A type or none holds a value. -/
def InO (o : Option ST) (v : Vl) : Prop := ∃ s, o = some s ∧ InP s v
def OWo : Option ST → Nat
  | none => 0
  | some s => OW s
def OrP (a b r : Option ST) : Prop := (∀ v, InO a v ∨ InO b v → InO r v) ∧ OWo r ≤ OWo a + OWo b
theorem inO_some {s : ST} {v : Vl} : InO (some s) v ↔ InP s v := ⟨fun ⟨_, e, h⟩ => by cases e; exact h, fun h => ⟨s, rfl, h⟩⟩
theorem inO_none {v : Vl} : ¬ InO none v := fun ⟨_, e, _⟩ => by cases e

theorem ws_kid' {kd : Int} {ks : List Ky} {kids more : List ST} {k : ST} (h : k ∈ kids ∨ k ∈ more) : WS k ≤ WS (.mk kd ks kids more) := by
  rcases h with h | h
  · exact WS_kid h
  · exact WS_more h
theorem assert110 {T X : TypeId} {u : Value} (h : ¬ T = 110) (w : World) : (Instr.typeAssert (.iface T u) X 110 true).run Tryz.prog w = .ok (.tuple #[.slice none 0 0, .bool false]) w := by
  unfold Instr.typeAssert
  simp [go_sem, Tryz.underlying110, Tryz.zeroValue110, h]
theorem assert112 {T X : TypeId} {u : Value} (h : ¬ T = 112) (w : World) : (Instr.typeAssert (.iface T u) X 112 true).run Tryz.prog w = .ok (.tuple #[.pointer none, .bool false]) w := by
  unfold Instr.typeAssert
  simp [go_sem, Tryz.underlying112, Tryz.zeroValue112, h]
theorem RT.no112 {m : Mem} {T : TypeId} {u : Value} {t : ST} (h : RT m (.iface T u) t) : ¬ T = 112 := fun e => by subst e; cases h
theorem RT.no110 {m : Mem} {T : TypeId} {u : Value} {t : ST} (h : RT m (.iface T u) t) (h8 : t.kind ≠ 8) : ¬ T = 110 := fun e => by subst e; cases h; exact h8 rfl
end Go.Proofs.YtaglgokeejjagaaGreat
/- 'Merge' of an any type with another one. -/
namespace Go.Proofs.YtaglgokeejjagaaGreat
set_option linter.unusedVariables false
set_option linter.unusedSimpArgs false
open Go.RowKit Go.Sort Go.Shelf Go.Proofs.YtaglgokeejjagaaGreatW.PrintLast

def MgP (l : List ST) (t : ST) (r : List ST) : Prop := (∀ v, InL l v ∨ InP t v → InL r v) ∧ SumW r ≤ SumW l + WS t
theorem app_right {α : Type} (l : List α) {r : List α} {j : Nat} (h : l.length ≤ j) {h2 : j < (l ++ r).length} : (l ++ r)[j] = r[j - l.length]'(by rw [List.length_append] at h2; omega) := List.getElem_append_right h
theorem mgP_has {l : List ST} {t : ST} (h : t ∈ l ∨ l = []) : MgP l t l := by
  refine ⟨fun v hv => ?_, by omega⟩
  rcases hv with hv | hv
  · exact hv
  · rcases h with h | h
    · exact .inr ⟨t, h, hv⟩
    · exact .inl h
theorem mgP_put {l : List ST} {t : ST} (i : Nat) (h0 : l ≠ []) : MgP l t (l.take i ++ (t :: l.drop i)) := by
  have e := sumW_drop l i
  refine ⟨fun v hv => ?_, by rw [sumW_append]; simp [SumW] at e ⊢; omega⟩
  rcases hv with (h1 | ⟨k, hk, h⟩) | hv
  · exact absurd h1 h0
  · refine .inr ⟨k, ?_, h⟩
    rw [← List.take_append_drop i l] at hk
    rcases List.mem_append.1 hk with h | h
    · exact List.mem_append_left _ h
    · exact List.mem_append_right _ (List.mem_cons_of_mem _ h)
  · exact .inr ⟨t, by simp, hv⟩

set_option maxHeartbeats 4000000 in
set_option maxRecDepth 100000 in
theorem merge_nil {m : Mem} {w : World} {a : Option Addr} {c : Nat} {y : Value} {t : ST} (lk : lenOk 0 c) (hy : RT m y t) (h8 : t.kind ≠ 8) (hm : MLe m (ucell w)) :
    Calls Tryz.prog 107 #[.slice a 0 c, y] w (AnQ m (MgP [] t) w) := by
  have HC := Lib.hid (fun (W : World) (hW : MLe m (ucell W)) => show Calls Tryz.prog 70 #[.slice a 0 c, y] W (CnQ [] t W) from contains70 (l := []) (xs := []) lk rfl (rowX_nil m a) (fun i h => absurd h (Nat.not_lt_zero _)) hy hW (by decide))
  have HM := Lib.hid hm
  have HRT := Lib.hid (fun (W : World) => show RT (fr m w.heap.size W none) (.iface 110 (.slice a 0 c)) (.mk 8 [] [] []) from .any (kids := []) (xs := []) lk rfl (rowX_nil _ a) (fun i h => absurd h (Nat.not_lt_zero _)))
  obtain ⟨T, u, rfl, _⟩ := hy.shape8
  have HT := Lib.hid (hy.no110 h8)
  clear hm lk hy h8
  · skip
    go_enter Tryz.func107, Tryz.ntmps107
    go_wp2_with fail
    rw [assert110 HT.out]
    go_wp2_with (go_at_call 70; refine (HC.out _ HM.out).mono ?_; rintro e w2 ⟨b, rfl, hb1, hb2, hg⟩; obtain rfl : b = true := by cases b with | true => rfl | false => exact absurd rfl (hb2 rfl).1)
    go_ret
    exact ⟨a, c, [], mgP_has (.inr rfl), rfl, HRT.out _, hg.below⟩
set_option maxHeartbeats 4000000 in
set_option maxRecDepth 100000 in
theorem merge_one {m : Mem} {w : World} {a : Option Addr} {c : Nat} {xs : List Value} {l : List ST} {y : Value} {t : ST} (h0 : l ≠ []) (lk : lenOk l.length c) (hl : xs.length = l.length) (r : RowX m a xs) (e : ∀ i (h1 : i < xs.length) (h2 : i < l.length), RT m xs[i] l[i]) (hy : RT m y t) (h8 : t.kind ≠ 8) (hm : MLe m (ucell w)) (hn : l.length < 500000) :
    Calls Tryz.prog 107 #[.slice a l.length c, y] w (AnQ m (MgP l t) w) := by
  have HC := Lib.hid (fun (W : World) (hW : MLe m (ucell W)) => contains70 (w := W) lk hl r e hy hW (by omega))
  have HB := Lib.hid (fun (W : World) (hW : MLe m (ucell W)) => bsT_any (w := W) lk hl r e hy hW (by omega))
  have HM := Lib.hid hm
  have HLO := Lib.hid (lo_of_mle (hm.trans ucell_le))
  have HRT := Lib.hid (fun (W : World) => show RT (fr m w.heap.size W none) (.iface 110 (.slice a l.length c)) (.mk 8 [] l []) from (RT.any lk hl r e).mono (fr_old (lo_of_mle (hm.trans ucell_le))))
  obtain ⟨b0, off, rfl, z1⟩ := rowX_get r (show 0 < xs.length by rw [hl]; exact List.length_pos_iff.2 h0)
  have HR := Lib.hid (fun j (hj : j < xs.length) => show m ⟨b0, off + j, none⟩ = some xs[j] by obtain ⟨_, _, e, h⟩ := rowX_get r hj; cases e; exact h)
  have HE := Lib.hid e
  have HY := Lib.hid hy
  have HL := Lib.hid hl
  have HN := Lib.hid hn
  have H0 := Lib.hid h0
  have HONE := Lib.hid (show ∀ v ∈ xs, v.oneCell' = true from fun v hv => by
    obtain ⟨i, hi, rfl⟩ := List.getElem_of_mem hv
    obtain ⟨T, y, e⟩ := (e i hi (by omega)).shape'
    rw [e]; rfl)
  obtain ⟨k1, k2⟩ := lk
  have hw1 : wrap64 ((l.length : Int) + 1) = (l.length : Int) + 1 := w64 (by omega)
  obtain ⟨T, u, rfl, _⟩ := hy.shape8
  have HT := Lib.hid (hy.no110 h8)
  obtain ⟨R, hR⟩ : ∃ R, R = List.replicate (l.length + 1) Value.nilIface := ⟨_, rfl⟩
  have HRR := Lib.hid hR
  obtain ⟨i0, hi0, hz0, hz1, hz2⟩ := info_parts info74'
  have HZ2 := Lib.hid hz2
  clear hm hl r e hy h8 z1 hn h0 hR hz2
  · skip
    go_enter Tryz.func107, Tryz.ntmps107
    go_wp2_with fail
    rw [assert110 HT.out]
    go_wp2_with (first
      | (go_at_call 70; refine (HC.out _ HM.out).mono ?_; rintro e w2 ⟨b, rfl, hb1, hb2, hg⟩; have HG := Lib.hid hg; have HB1 := Lib.hid hb1; clear hb1 hb2 hg; cases b)
      | (at_make; refine wpList_make_full _ rfl _ _ 110 rfl w2.heap.size 74 i0 .nilIface 1 Tryz.underlying110 hi0 hz0 hz1 .i64 .i64 _ _ (l.length + 1) rfl rfl (by rw [hw1]; rfl) (by rw [hw1]; rfl) (by rw [HZ2.out]; have := HN.out; omega) (by have := HN.out; simp [maxLen]; omega) (Nat.le_refl _) ?_; intro w1 hown1 hg1; have HK := Lib.hid (show w1.heap[w2.heap.size]? = some (.cells R.toArray 74 (0, 0)) by rw [HRR.out]; exact made_blk hown1); have HBW := Lib.hid (bl_trans HG.out.below (gb_below hg1)); clear hown1 hg1)
      | (go_at_call 105; refine (HB.out _ (HM.out.trans (mleU HBW.out))).mono ?_; rintro e w3 ⟨i, b, rfl, hi1, hi2, hi3, hg⟩; have HK3 := Lib.hid (bl_heap hg.below HK.out); have HB3 := Lib.hid (bl_trans HBW.out hg.below); have hic : i ≤ c := (by omega); have hil : i < l.length + 1 := (by omega); clear hi2 hi3 hg))
    · have hR3 : w3.heap[w2.heap.size]? = some (.cells R.toArray 74 (0, 0)) := HK3.out
      obtain ⟨w4, hw4⟩ : ∃ w4, w4 = w3.setRow w2.heap.size (R.toArray.toList.take 0 ++ xs.take i ++ R.toArray.toList.drop (0 + (xs.take i).length)).toArray := ⟨_, rfl⟩
      rw [run_copy_row (P := Tryz.prog) w3 110 110 3 74 w2.heap.size 0 (l.length + 1) (l.length + 1) ⟨b0, off, none⟩ i c R.toArray 74 (xs.take i) Tryz.underlying110 size74 hR3 (by have := HL.out; simp only [List.length_take, Nat.min_def]; split <;> split <;> omega) (fun j v hj => by obtain ⟨h1, rfl⟩ := List.getElem?_eq_some_iff.1 hj; rw [add0, List.getElem_take]; exact (mle_below HB3.out) _ _ (ucell_le _ _ (HM.out _ _ (HR.out j (by simp at h1; omega))))) (by have := HL.out; rw [HRR.out]; simp; omega) (fun v hv => HONE.out v (List.mem_of_mem_take hv)), ← hw4]
      have hlen : (splice R 0 (xs.take i)).length = l.length + 1 := by rw [length_splice _ _ _ (by have := HL.out; rw [HRR.out]; simp; omega), HRR.out]; simp
      have HK4 := Lib.hid (show w4.heap[w2.heap.size]? = some (.cells (splice R 0 (xs.take i)).toArray 74 (0, 0)) by rw [hw4]; simpa [splice] using setRow_heap w3 _ _ (R.toArray.toList.take 0 ++ xs.take i ++ R.toArray.toList.drop (0 + (xs.take i).length)).toArray _ _ hR3)
      have HB4 := Lib.hid (show Below w.heap.size w w4 by rw [hw4]; exact below_setRow HB3.out HG.out.below.size _)
      clear hw4 hR3
      have q0 := cell_blk HK4.out i (Array.getElem?_eq_getElem (show i < (splice R 0 (xs.take i)).toArray.size by rw [List.size_toArray, hlen]; exact hil))
      have q1 := froz_blk HK4.out
      have q2 := lt_blk HK4.out
      go_wp2_with fail
      generalize hW5 : World.setCell w4 _ _ = w5
      obtain ⟨Y, hY, hW5⟩ : ∃ Y, RT m Y t ∧ w5 = w4.setCell ⟨w2.heap.size, i, none⟩ Y := ⟨_, HY.out, hW5.symm⟩
      have hle : (xs.take i).length = i := by have := HL.out; simp; omega
      have HK5 := Lib.hid (show w5.heap[w2.heap.size]? = some (.cells (splice (splice R 0 (xs.take i)) i [Y]).toArray 74 (0, 0)) by
        rw [hW5, set_blk HK4.out i Y]
        congr 2
        rw [nrA]
        generalize hZ : splice R 0 (xs.take i) = Z at hlen ⊢
        rw [List.set_eq_take_append_cons_drop, if_pos (by rw [hlen]; exact hil)]
        simp [splice])
      have HB5 := Lib.hid (show Below w.heap.size w w5 by rw [hW5]; exact HB4.out.setCell HG.out.below.size _)
      have hlen5 : (splice (splice R 0 (xs.take i)) i [Y]).length = l.length + 1 := by rw [length_splice _ _ _ (by rw [hlen]; simp; omega), hlen]
      have HYY := Lib.hid hY
      have hwi : wrap64 ((i : Int) + 1) = (i : Int) + 1 := w64 (by have := HN.out; omega)
      have hile : i ≤ l.length := by omega
      clear hW5 hY q0 q1 q2
      have h01 : 0 ≤ (i : Int) + 1 := by omega
      by_cases hni : l.length = i
      · subst hni
        by_cases hnc : c = l.length
        · subst hnc
          refine start_ (n := 8) (S := fun w' => w'.heap[w2.heap.size]? = some (.cells (splice (splice R 0 (xs.take l.length)) l.length [Y]).toArray 74 (0, 0))) (ds := [7]) (lb 8 0) (by kernel_rfl) rfl rfl (HK5.out) (fun hHeld => ?_)
          refine pure_ (i := 0) (N := some 42) (v := ?_) (a' := ?_) (lb 8 1) rfl rfl (by kernel_rfl) (fun _ _ _ h => h) (Or.inl ⟨by rfl, ?_⟩) ?_ ?_
          rotate_left
          · intro w'
            go_simp
            with_reducible rfl
          rotate_left
          · simp only [Act.put, nrA, nrB, nrC, i64_w, i32_w]
            rfl
          refine pure_ (i := 1) (N := some 43) (v := ?_) (a' := ?_) (lb 8 3) rfl rfl (by kernel_rfl) (fun _ _ _ h => h) (Or.inl ⟨by rfl, ?_⟩) ?_ ?_
          rotate_left
          · intro w'
            go_simp
            with_reducible rfl
          rotate_left
          · simp only [Act.put, nrA, nrB, nrC, i64_w, i32_w]
            rfl
          refine pure_ (i := 2) (N := some 44) (v := ?_) (a' := ?_) (lb 8 7) rfl rfl (by kernel_rfl) (fun _ _ _ h => h) (Or.inl ⟨by rfl, ?_⟩) ?_ ?_
          rotate_left
          · intro w'
            go_simp
            with_reducible rfl
          rotate_left
          · simp only [Act.put, nrA, nrB, nrC, i64_w, i32_w]
            rfl
          refine pure_ (i := 3) (N := some 45) (v := ?_) (a' := ?_) (lb 8 15) rfl rfl (by kernel_rfl) (fun _ _ _ h => h) (Or.inl ⟨by rfl, ?_⟩) ?_ ?_
          rotate_left
          · intro w'
            go_simp
            with_reducible rfl
          rotate_left
          · simp only [Act.put, nrA, nrB, nrC, i64_w, i32_w]
            rfl
          refine pure_ (i := 4) (N := some 46) (v := ?_) (a' := ?_) (lb 8 31) rfl rfl (by kernel_rfl) (fun _ _ _ h => h) (Or.inl ⟨by rfl, ?_⟩) ?_ ?_
          rotate_left
          · intro w'
            go_simp
            with_reducible rfl
          rotate_left
          · simp only [Act.put, nrA, nrB, nrC, i64_w, i32_w]
            rfl
          refine pure_ (i := 5) (N := some 47) (v := ?_) (a' := ?_) (lb 8 63) rfl rfl (by kernel_rfl) (fun _ _ _ h => h) (Or.inl ⟨by rfl, ?_⟩) ?_ ?_
          rotate_left
          · intro w'
            go_simp
            with_reducible rfl
          rotate_left
          · simp only [Act.put, nrA, nrB, nrC, i64_w, i32_w]
            rfl
          refine pure_ (i := 6) (N := some 48) (v := ?_) (a' := ?_) (lb 8 127) rfl rfl (by kernel_rfl) (fun _ _ _ h => h) (Or.inl ⟨by rfl, ?_⟩) ?_ ?_
          rotate_left
          · intro w'
            go_simp
            with_reducible rfl
          rotate_left
          · simp only [Act.put, nrA, nrB, nrC, i64_w, i32_w]
            rfl
          refine last_ (i := 7) (N := some 49) (lb 8 255) rfl rfl (by kernel_rfl) (by decide) (fun K hK => ?_)
          refine step_copy_splice rfl (.tmp 45) (.tmp 48) 110 110 rfl 74 Tryz.underlying110 size74 _ _ _ _ _ _ rfl rfl w2.heap.size (l.length + 1) (splice (splice R 0 (xs.take l.length)) l.length [Y]) 74 (by first | exact HK5.out | exact hHeld) (xs.drop l.length) (by have := HL.out; simp; try omega) (fun h => absurd h (by have := HL.out; simp; omega)) (by have := HL.out; rw [hlen5, List.length_drop]; omega) (fun v hv => HONE.out v (List.mem_of_mem_drop hv)) w.heap.size w HB5.out.drew HG.out.below.size ?_
          intro w6 hk6 hb6
          refine hK.out _ _ ?_
          clear hK K
          refine norm_ (a' := ?_) ?_ ?_
          rotate_left
          · show Act.put _ (some 49) _ = _
            simp only [Act.put, nrA, nrB, nrC, i64_w, i32_w]
            rfl
          refine done_ (by kernel_rfl) ?_
          go_wp2
          go_ret
          have hk := hk6.out
          rw [splice_splice_splice R (xs.take l.length) [Y] (xs.drop l.length) l.length 1 hle rfl (by have := HL.out; rw [HRR.out]; simp; omega)] at hk
          have hxl := HL.out
          have how := own_blk (m := m) (B := w.heap.size) (l := l.take l.length ++ (t :: l.drop l.length)) hk (by simp; omega) HG.out.below.size HLO.out (fun j h1 h2 => by
            by_cases hj : j < l.length
            · have a1 : (xs.take l.length ++ ([Y] ++ xs.drop l.length))[j] = xs[j]'(by omega) := by rw [List.getElem_append_left (by omega)]; try simp
              have a2 : (l.take l.length ++ (t :: l.drop l.length))[j] = l[j]'(by omega) := by rw [List.getElem_append_left (by simp; try omega)]; try simp
              rw [a1, a2]; exact HE.out j _ _
            · have hlt2 : (l.take l.length).length = l.length := by simp
              rw [app_right (xs.take l.length) (by omega), app_right (l.take l.length) (by omega)]
              simp only [hle, hlt2]
              by_cases hj2 : j = l.length
              · subst hj2; simp; exact HYY.out
              · obtain ⟨d, hd⟩ : ∃ d, j - l.length = d + 1 := ⟨j - l.length - 1, by omega⟩
                simp only [hd, List.singleton_append, List.getElem_cons_succ, List.getElem_drop]
                exact HE.out _ _ _) (by have := HN.out; simp; omega)
          have hrl : (l.take l.length ++ (t :: l.drop l.length)).length = l.length + 1 := by simp
          rw [hrl] at how
          exact how.anQ hb6 (mgP_put l.length H0.out)
        · skip
          refine start_ (n := 8) (S := fun w' => w'.heap[w2.heap.size]? = some (.cells (splice (splice R 0 (xs.take l.length)) l.length [Y]).toArray 74 (0, 0))) (ds := [7]) (lb 8 0) (by kernel_rfl) rfl rfl (HK5.out) (fun hHeld => ?_)
          refine pure_ (i := 0) (N := some 42) (v := ?_) (a' := ?_) (lb 8 1) rfl rfl (by kernel_rfl) (fun _ _ _ h => h) (Or.inl ⟨by rfl, ?_⟩) ?_ ?_
          rotate_left
          · intro w'
            go_simp
            with_reducible rfl
          rotate_left
          · simp only [Act.put, nrA, nrB, nrC, i64_w, i32_w]
            rfl
          refine pure_ (i := 1) (N := some 43) (v := ?_) (a' := ?_) (lb 8 3) rfl rfl (by kernel_rfl) (fun _ _ _ h => h) (Or.inl ⟨by rfl, ?_⟩) ?_ ?_
          rotate_left
          · intro w'
            go_simp
            with_reducible rfl
          rotate_left
          · simp only [Act.put, nrA, nrB, nrC, i64_w, i32_w]
            rfl
          refine pure_ (i := 2) (N := some 44) (v := ?_) (a' := ?_) (lb 8 7) rfl rfl (by kernel_rfl) (fun _ _ _ h => h) (Or.inl ⟨by rfl, ?_⟩) ?_ ?_
          rotate_left
          · intro w'
            go_simp
            with_reducible rfl
          rotate_left
          · simp only [Act.put, nrA, nrB, nrC, i64_w, i32_w]
            rfl
          refine pure_ (i := 3) (N := some 45) (v := ?_) (a' := ?_) (lb 8 15) rfl rfl (by kernel_rfl) (fun _ _ _ h => h) (Or.inl ⟨by rfl, ?_⟩) ?_ ?_
          rotate_left
          · intro w'
            go_simp
            with_reducible rfl
          rotate_left
          · simp only [Act.put, nrA, nrB, nrC, i64_w, i32_w]
            rfl
          refine pure_ (i := 4) (N := some 46) (v := ?_) (a' := ?_) (lb 8 31) rfl rfl (by kernel_rfl) (fun _ _ _ h => h) (Or.inl ⟨by rfl, ?_⟩) ?_ ?_
          rotate_left
          · intro w'
            go_simp
            with_reducible rfl
          rotate_left
          · simp only [Act.put, nrA, nrB, nrC, i64_w, i32_w]
            rfl
          refine pure_ (i := 5) (N := some 47) (v := ?_) (a' := ?_) (lb 8 63) rfl rfl (by kernel_rfl) (fun _ _ _ h => h) (Or.inl ⟨by rfl, ?_⟩) ?_ ?_
          rotate_left
          · intro w'
            go_simp
            with_reducible rfl
          rotate_left
          · simp only [Act.put, nrA, nrB, nrC, i64_w, i32_w]
            rfl
          refine pure_ (i := 6) (N := some 48) (v := ?_) (a' := ?_) (lb 8 127) rfl rfl (by kernel_rfl) (fun _ _ _ h => h) (Or.inl ⟨by rfl, ?_⟩) ?_ ?_
          rotate_left
          · intro w'
            go_simp
            with_reducible rfl
          rotate_left
          · simp only [Act.put, nrA, nrB, nrC, i64_w, i32_w]
            rfl
          refine last_ (i := 7) (N := some 49) (lb 8 255) rfl rfl (by kernel_rfl) (by decide) (fun K hK => ?_)
          refine step_copy_splice rfl (.tmp 45) (.tmp 48) 110 110 rfl 74 Tryz.underlying110 size74 _ _ _ _ _ _ rfl rfl w2.heap.size (l.length + 1) (splice (splice R 0 (xs.take l.length)) l.length [Y]) 74 (by first | exact HK5.out | exact hHeld) (xs.drop l.length) (by have := HL.out; simp; try omega) (fun h => absurd h (by have := HL.out; simp; omega)) (by have := HL.out; rw [hlen5, List.length_drop]; omega) (fun v hv => HONE.out v (List.mem_of_mem_drop hv)) w.heap.size w HB5.out.drew HG.out.below.size ?_
          intro w6 hk6 hb6
          refine hK.out _ _ ?_
          clear hK K
          refine norm_ (a' := ?_) ?_ ?_
          rotate_left
          · show Act.put _ (some 49) _ = _
            simp only [Act.put, nrA, nrB, nrC, i64_w, i32_w]
            rfl
          refine done_ (by kernel_rfl) ?_
          go_wp2
          go_ret
          have hk := hk6.out
          rw [splice_splice_splice R (xs.take l.length) [Y] (xs.drop l.length) l.length 1 hle rfl (by have := HL.out; rw [HRR.out]; simp; omega)] at hk
          have hxl := HL.out
          have how := own_blk (m := m) (B := w.heap.size) (l := l.take l.length ++ (t :: l.drop l.length)) hk (by simp; omega) HG.out.below.size HLO.out (fun j h1 h2 => by
            by_cases hj : j < l.length
            · have a1 : (xs.take l.length ++ ([Y] ++ xs.drop l.length))[j] = xs[j]'(by omega) := by rw [List.getElem_append_left (by omega)]; try simp
              have a2 : (l.take l.length ++ (t :: l.drop l.length))[j] = l[j]'(by omega) := by rw [List.getElem_append_left (by simp; try omega)]; try simp
              rw [a1, a2]; exact HE.out j _ _
            · have hlt2 : (l.take l.length).length = l.length := by simp
              rw [app_right (xs.take l.length) (by omega), app_right (l.take l.length) (by omega)]
              simp only [hle, hlt2]
              by_cases hj2 : j = l.length
              · subst hj2; simp; exact HYY.out
              · obtain ⟨d, hd⟩ : ∃ d, j - l.length = d + 1 := ⟨j - l.length - 1, by omega⟩
                simp only [hd, List.singleton_append, List.getElem_cons_succ, List.getElem_drop]
                exact HE.out _ _ _) (by have := HN.out; simp; omega)
          have hrl : (l.take l.length ++ (t :: l.drop l.length)).length = l.length + 1 := by simp
          rw [hrl] at how
          exact how.anQ hb6 (mgP_put l.length H0.out)
      have hnc : ¬ c = i := by omega
      have hni2 : ¬ i = l.length := by omega
      refine start_ (n := 8) (S := fun w' => w'.heap[w2.heap.size]? = some (.cells (splice (splice R 0 (xs.take i)) i [Y]).toArray 74 (0, 0))) (ds := [7]) (lb 8 0) (by kernel_rfl) rfl rfl (HK5.out) (fun hHeld => ?_)
      refine pure_ (i := 0) (N := some 42) (v := ?_) (a' := ?_) (lb 8 1) rfl rfl (by kernel_rfl) (fun _ _ _ h => h) (Or.inl ⟨by rfl, ?_⟩) ?_ ?_
      rotate_left
      · intro w'
        go_simp
        with_reducible rfl
      rotate_left
      · simp only [Act.put, nrA, nrB, nrC, i64_w, i32_w]
        rfl
      refine pure_ (i := 1) (N := some 43) (v := ?_) (a' := ?_) (lb 8 3) rfl rfl (by kernel_rfl) (fun _ _ _ h => h) (Or.inl ⟨by rfl, ?_⟩) ?_ ?_
      rotate_left
      · intro w'
        go_simp
        with_reducible rfl
      rotate_left
      · simp only [Act.put, nrA, nrB, nrC, i64_w, i32_w]
        rfl
      refine pure_ (i := 2) (N := some 44) (v := ?_) (a' := ?_) (lb 8 7) rfl rfl (by kernel_rfl) (fun _ _ _ h => h) (Or.inl ⟨by rfl, ?_⟩) ?_ ?_
      rotate_left
      · intro w'
        go_simp
        with_reducible rfl
      rotate_left
      · simp only [Act.put, nrA, nrB, nrC, i64_w, i32_w]
        rfl
      refine pure_ (i := 3) (N := some 45) (v := ?_) (a' := ?_) (lb 8 15) rfl rfl (by kernel_rfl) (fun _ _ _ h => h) (Or.inl ⟨by rfl, ?_⟩) ?_ ?_
      rotate_left
      · intro w'
        go_simp
        with_reducible rfl
      rotate_left
      · simp only [Act.put, nrA, nrB, nrC, i64_w, i32_w]
        rfl
      refine pure_ (i := 4) (N := some 46) (v := ?_) (a' := ?_) (lb 8 31) rfl rfl (by kernel_rfl) (fun _ _ _ h => h) (Or.inl ⟨by rfl, ?_⟩) ?_ ?_
      rotate_left
      · intro w'
        go_simp
        with_reducible rfl
      rotate_left
      · simp only [Act.put, nrA, nrB, nrC, i64_w, i32_w]
        rfl
      refine pure_ (i := 5) (N := some 47) (v := ?_) (a' := ?_) (lb 8 63) rfl rfl (by kernel_rfl) (fun _ _ _ h => h) (Or.inl ⟨by rfl, ?_⟩) ?_ ?_
      rotate_left
      · intro w'
        go_simp
        with_reducible rfl
      rotate_left
      · simp only [Act.put, nrA, nrB, nrC, i64_w, i32_w]
        rfl
      refine pure_ (i := 6) (N := some 48) (v := ?_) (a' := ?_) (lb 8 127) rfl rfl (by kernel_rfl) (fun _ _ _ h => h) (Or.inl ⟨by rfl, ?_⟩) ?_ ?_
      rotate_left
      · intro w'
        go_simp
        with_reducible rfl
      rotate_left
      · simp only [Act.put, nrA, nrB, nrC, i64_w, i32_w]
        rfl
      refine last_ (i := 7) (N := some 49) (lb 8 255) rfl rfl (by kernel_rfl) (by decide) (fun K hK => ?_)
      refine step_copy_splice rfl (.tmp 45) (.tmp 48) 110 110 rfl 74 Tryz.underlying110 size74 (some ⟨w2.heap.size, i + 1, none⟩) (some ⟨b0, off + i, none⟩) (l.length + 1 - (i + 1)) (l.length + 1 - (i + 1)) (l.length - i) (c - i) (by first | rfl | go_simp) (by first | rfl | go_simp) w2.heap.size (i + 1) (splice (splice R 0 (xs.take i)) i [Y]) 74 (by first | exact HK5.out | exact hHeld) (xs.drop i) (by have := HL.out; simp only [List.length_drop, Nat.min_def]; split <;> omega) (fun _ => ⟨rfl, ⟨b0, off + i, none⟩, rfl, fun j v hj => by obtain ⟨h1, rfl⟩ := List.getElem?_eq_some_iff.1 hj; rw [add0, List.getElem_drop, Nat.add_assoc]; exact (mle_below HB5.out) _ _ (ucell_le _ _ (HM.out _ _ (HR.out (i + j) (by rw [List.length_drop] at h1; omega))))⟩) (by have := HL.out; rw [hlen5, List.length_drop]; omega) (fun v hv => HONE.out v (List.mem_of_mem_drop hv)) w.heap.size w HB5.out.drew HG.out.below.size ?_
      intro w6 hk6 hb6
      refine hK.out _ _ ?_
      clear hK K
      refine norm_ (a' := ?_) ?_ ?_
      rotate_left
      · show Act.put _ (some 49) _ = _
        simp only [Act.put, nrA, nrB, nrC, i64_w, i32_w]
        rfl
      refine done_ (by kernel_rfl) ?_
      go_wp2
      go_ret
      have hk := hk6.out
      rw [splice_splice_splice R (xs.take i) [Y] (xs.drop i) i 1 hle rfl (by have := HL.out; rw [HRR.out]; simp; omega)] at hk
      have hxl := HL.out
      have how := own_blk (m := m) (B := w.heap.size) (l := l.take i ++ (t :: l.drop i)) hk (by simp; omega) HG.out.below.size HLO.out (fun j h1 h2 => by
        by_cases hj : j < i
        · have a1 : (xs.take i ++ ([Y] ++ xs.drop i))[j] = xs[j]'(by omega) := by rw [List.getElem_append_left (by omega)]; try simp
          have a2 : (l.take i ++ (t :: l.drop i))[j] = l[j]'(by omega) := by rw [List.getElem_append_left (by simp; try omega)]; try simp
          rw [a1, a2]; exact HE.out j _ _
        · have hlt2 : (l.take i).length = i := by simp; omega
          rw [app_right (xs.take i) (by omega), app_right (l.take i) (by omega)]
          simp only [hle, hlt2]
          by_cases hj2 : j = i
          · subst hj2; simp; exact HYY.out
          · obtain ⟨d, hd⟩ : ∃ d, j - i = d + 1 := ⟨j - i - 1, by omega⟩
            simp only [hd, List.singleton_append, List.getElem_cons_succ, List.getElem_drop]
            exact HE.out _ _ _) (by have := HN.out; simp; omega)
      have hrl : (l.take i ++ (t :: l.drop i)).length = l.length + 1 := by simp; omega
      rw [hrl] at how
      exact how.anQ hb6 (mgP_put i H0.out)
    · go_ret
      exact ⟨_, c, l, mgP_has (by first | exact HB1.out rfl | exact HB1.out trivial | exact HB1.out), rfl, HRT.out _, HG.out.below⟩
end Go.Proofs.YtaglgokeejjagaaGreat
/- 'Merge' of an any type with any type; 'Or' of two types or none. -/
namespace Go.Proofs.YtaglgokeejjagaaGreat
set_option linter.unusedVariables false
set_option linter.unusedSimpArgs false
open Go.RowKit Go.Sort

theorem fr_trans {m : Mem} {B : Nat} {w1 w2 : World} (hl : Lo m B) (hB : B ≤ w1.heap.size) (hb : Below w1.heap.size w1 w2) : MLe (fr (fr m B w1 none) w1.heap.size w2 none) (fr m B w2 none) := fun a x h => by
  unfold fr at h
  split at h
  · rw [if_neg (by simp)] at h
    unfold fr
    rw [if_pos (by omega), if_neg (by simp)]
    exact h
  · exact fr_bl hb _ _ h
theorem fr_at {m : Mem} {B b i : Nat} {w : World} {c : Array Value} {T : TypeId} {v : Value} (hB : B ≤ b) (h : w.heap[b]? = some (.cells c T (0, 0))) (hi : c[i]? = some v) : fr m B w none ⟨b, i, none⟩ = some v := by
  unfold fr
  rw [if_pos hB, if_neg (by simp)]
  exact ucell_blk h i hi
theorem rowX_two {m : Mem} {b : Nat} {x y : Value} (h0 : m ⟨b, 0, none⟩ = some x) (h1 : m ⟨b, 1, none⟩ = some y) : RowX m (some ⟨b, 0, none⟩) [x, y] := fun _ => by
  refine ⟨b, 0, rfl, fun i hi j v hj => ?_⟩
  match i, j, hi, hj with
  | 0, 0, _, hj => simp at hj; subst hj; exact h0
  | 1, 0, _, hj => simp at hj; subst hj; exact h1
  | n + 2, _, hi, _ => exact absurd hi (by simp)
  | _, j + 1, _, hj => simp at hj
theorem union_any {m : Mem} {w : World} {a a' : Option Addr} {c c' : Nat} {xs ys : List Value} {l l' : List ST} (lk : lenOk l.length c) (hl : xs.length = l.length) (r : RowX m a xs) (e : ∀ i (h1 : i < xs.length) (h2 : i < l.length), RT m xs[i] l[i])
    (lk' : lenOk l'.length c') (hl' : ys.length = l'.length) (r' : RowX m a' ys) (e' : ∀ i (h1 : i < ys.length) (h2 : i < l'.length), RT m ys[i] l'[i]) (hm : MLe m (ucell w)) (hn : l.length + l'.length ≤ 3000000) :
    Calls Tryz.prog 116 #[.slice a l.length c, .slice a' l'.length c'] w (AnQ m (UnP l l') w) := by
  by_cases h : l = []
  · subst h; exact union_zero (y := .nilIface) (.any lk hl r e) hm
  · by_cases h' : l' = []
    · subst h'; exact union_zero' h (.any lk' hl' r' e') hm
    · exact union_main h h' lk hl r e lk' hl' r' e' hm hn
set_option maxHeartbeats 4000000 in
set_option maxRecDepth 100000 in
theorem merge_un {m : Mem} {w : World} {a a' : Option Addr} {c c' : Nat} {xs ys : List Value} {l l' : List ST} (lk : lenOk l.length c) (hl : xs.length = l.length) (r : RowX m a xs) (e : ∀ i (h1 : i < xs.length) (h2 : i < l.length), RT m xs[i] l[i])
    (lk' : lenOk l'.length c') (hl' : ys.length = l'.length) (r' : RowX m a' ys) (e' : ∀ i (h1 : i < ys.length) (h2 : i < l'.length), RT m ys[i] l'[i]) (hm : MLe m (ucell w)) (hn : l.length + l'.length ≤ 3000000) :
    Calls Tryz.prog 107 #[.slice a l.length c, .iface 110 (.slice a' l'.length c')] w (AnQ m (UnP l l') w) := by
  have HU := Lib.hid (fun (W : World) (hW : MLe m (ucell W)) => show Calls Tryz.prog 116 #[.slice a l.length c, .slice a' l'.length c'] W (AnQ m (UnP l l') W) from union_any lk hl r e lk' hl' r' e' hW hn)
  have HM := Lib.hid hm
  clear lk hl r e lk' hl' r' e' hm hn
  go_enter Tryz.func107, Tryz.ntmps107
  go_wp2_with (go_at_call 116; refine (HU.out _ HM.out).mono ?_; rintro e w2 ⟨p, c2, r, hp, rfl, hr, hb⟩; have HP := Lib.hid hp; have HR := Lib.hid hr; have HB := Lib.hid hb; clear hp hr hb)
  go_ret
  exact ⟨_, _, _, HP.out, rfl, HR.out, HB.out⟩
theorem merge_any {m : Mem} {w : World} {a : Option Addr} {c : Nat} {xs : List Value} {l : List ST} {y : Value} {t : ST} (lk : lenOk l.length c) (hl : xs.length = l.length) (r : RowX m a xs) (e : ∀ i (h1 : i < xs.length) (h2 : i < l.length), RT m xs[i] l[i]) (hy : RT m y t) (hm : MLe m (ucell w)) (hn : SumW l + OW t < 500000) :
    Calls Tryz.prog 107 #[.slice a l.length c, y] w (AnQ m (MgQ l t) w) := by
  have h1 := sumW_len l
  by_cases h8 : t.kind = 8
  · cases hy with
    | @any c' a' ys l' lk' hl' r' e' =>
      have h2 := sumW_len l'
      rw [ow_8] at hn
      refine (merge_un lk hl r e lk' hl' r' e' hm (by omega)).mono ?_
      rintro e w' ⟨p, c2, r, hp, h⟩
      exact ⟨p, c2, r, ⟨fun v hv => hp.1 v (hv.imp id inL_iff.1), by rw [ow_8]; exact hp.2⟩, h⟩
    | _ => exact absurd h8 (by simp [ST.kind])
  · have hq : ∀ r, MgP l t r → MgQ l t r := fun r h => ⟨h.1, by rw [ow_o h8]; exact h.2⟩
    by_cases h0 : l = []
    · subst h0
      exact (merge_nil lk hy h8 hm).mono fun e w' ⟨p, c2, r, hp, h⟩ => ⟨p, c2, r, hq r hp, h⟩
    · exact (merge_one h0 lk hl r e hy h8 hm (by omega)).mono fun e w' ⟨p, c2, r, hp, h⟩ => ⟨p, c2, r, hq r hp, h⟩

def OrQ (m : Mem) (a b : Option ST) (w : World) (e : Ending) (w' : World) : Prop := ∃ y o, OrP a b o ∧ e = .returned y ∧ RO (fr m w.heap.size w' none) y o ∧ Below w.heap.size w w'
/-- As OrQ; no type comes of none alone. -/
def OrN (m : Mem) (a b : Option ST) (w : World) (e : Ending) (w' : World) : Prop := ∃ y o, OrP a b o ∧ e = .returned y ∧ RO (fr m w.heap.size w' none) y o ∧ Below w.heap.size w w' ∧ (a ≠ none ∨ b ≠ none → o ≠ none)
theorem unwrapO {m : Mem} {x : Value} {a : Option ST} (h : RO m x a) (w : World) : Calls Tryz.prog 67 #[x] w (SameP x w) := by
  cases a with
  | none => obtain rfl : x = .nilIface := h; exact unwrap_nil w
  | some s => exact unwrap_any (show RT m x s from h) w
set_option maxHeartbeats 4000000 in
set_option maxRecDepth 100000 in
theorem or_nil1 {m : Mem} {w : World} {y : Value} {b : Option ST} (hb : RO m y b) (hm : MLe m (ucell w)) : Calls Tryz.prog 72 #[.nilIface, y] w (OrN m none b w) := by
  have HU := Lib.hid (fun (x : Value) (h : x = .nilIface ∨ x = y) (W : World) => show Calls Tryz.prog 67 #[x] W (SameP x W) from by
    rcases h with rfl | rfl
    · exact unwrap_nil W
    · exact unwrapO hb W)
  have HB := Lib.hid (hb.mono (fr_old (B := w.heap.size) (w := w) (r := none) (lo_of_mle (hm.trans ucell_le))))
  clear hb hm
  go_enter Tryz.func72, Tryz.ntmps72
  go_wp2_with (go_at_call 67; refine (HU.out _ (by first | exact Or.inl rfl | exact Or.inr rfl) _).mono ?_; rintro e w2 ⟨rfl, hww⟩; have hww := hww.symm; subst hww)
  go_ret
  exact ⟨_, b, ⟨fun v h => h.resolve_left inO_none, by simp [OWo]⟩, rfl, HB.out, Below.refl _ _, fun h => h.resolve_left (fun h => h rfl)⟩
set_option maxHeartbeats 4000000 in
set_option maxRecDepth 100000 in
theorem or_nil2 {m : Mem} {w : World} {x : Value} {s : ST} (ha : RT m x s) (hm : MLe m (ucell w)) : Calls Tryz.prog 72 #[x, .nilIface] w (OrN m (some s) none w) := by
  have HB := Lib.hid (show RO (fr m w.heap.size w none) x (some s) from ha.mono (fr_old (lo_of_mle (hm.trans ucell_le))))
  obtain ⟨T, u, rfl, hT⟩ := ha.shape8
  have HU := Lib.hid (fun (x : Value) (h : x = .nilIface ∨ x = .iface T u) (W : World) => show Calls Tryz.prog 67 #[x] W (SameP x W) from by
    rcases h with rfl | rfl
    · exact unwrap_nil W
    · exact unwrap_any ha W)
  clear ha hm hT
  go_enter Tryz.func72, Tryz.ntmps72
  go_wp2_with (go_at_call 67; refine (HU.out _ (by first | exact Or.inl rfl | exact Or.inr rfl) _).mono ?_; rintro e w2 ⟨rfl, hww⟩; have hww := hww.symm; subst hww)
  go_ret
  exact ⟨_, some s, ⟨fun v h => h.resolve_right inO_none, by simp [OWo]⟩, rfl, HB.out, Below.refl _ _, fun _ => by simp⟩
theorem orP_mg {l : List ST} {s t : ST} {r : List ST} (hs : s = .mk 8 [] l []) (h : MgQ l t r) : OrP (some s) (some t) (some (.mk 8 [] r [])) ∧ OrP (some t) (some s) (some (.mk 8 [] r [])) := by
  subst hs
  have e : OWo (some (.mk 8 [] r [])) ≤ SumW l + OW t := by rw [OWo, ow_8]; exact h.2
  refine ⟨⟨fun v hv => inO_some.2 (inL_iff.2 (h.1 v (hv.imp (fun h => inL_iff.1 (inO_some.1 h)) inO_some.1))), ?_⟩, ⟨fun v hv => inO_some.2 (inL_iff.2 (h.1 v (hv.symm.imp (fun h => inL_iff.1 (inO_some.1 h)) inO_some.1))), ?_⟩⟩
  · rw [show OWo (some (ST.mk 8 [] l [])) = SumW l by rw [OWo, ow_8]]; exact e
  · rw [show OWo (some (ST.mk 8 [] l [])) = SumW l by rw [OWo, ow_8], Nat.add_comm]; exact e
set_option maxHeartbeats 4000000 in
set_option maxRecDepth 100000 in
theorem or_any1 {m : Mem} {w : World} {x y : Value} {s t : ST} (ha : RT m x s) (hb : RT m y t) (h8 : s.kind = 8) (hm : MLe m (ucell w)) (hn : OW s + OW t < 500000) : Calls Tryz.prog 72 #[x, y] w (OrN m (some s) (some t) w) := by
  have HU := Lib.hid (fun (v : Value) (h : v = x ∨ v = y) (W : World) => show Calls Tryz.prog 67 #[v] W (SameP v W) from by
    rcases h with rfl | rfl
    · exact unwrap_any ha W
    · exact unwrap_any hb W)
  have HM := Lib.hid hm
  cases ha with
  | @any c a xs l lk hl r e =>
    have HG := Lib.hid (fun (W : World) (hW : MLe m (ucell W)) => merge_any (w := W) lk hl r e hb hW (by rw [ow_8] at hn; exact hn))
    have HO := Lib.hid (fun (r : List ST) (h : MgQ l t r) => (orP_mg (s := .mk 8 [] l []) rfl h).1)
    clear lk hl r e
    by_cases ht : t.kind = 8
    · cases hb with
      | @any c' a' ys l' lk' hl' r' e' =>
        clear lk' hl' r' e' hm
        go_enter Tryz.func72, Tryz.ntmps72
        go_wp2_with (first
          | (go_at_call 67; refine (HU.out _ (by first | exact Or.inl rfl | exact Or.inr rfl) _).mono ?_; rintro e w2 ⟨rfl, hww⟩; have hww := hww.symm; subst hww)
          | (go_at_call 107; refine (HG.out _ HM.out).mono ?_; rintro e w2 ⟨p, c2, r, hp, rfl, hr, hb⟩; have HP := Lib.hid hp; have HR := Lib.hid hr; have HB := Lib.hid hb; clear hp hr hb))
        go_ret
        exact ⟨_, _, HO.out _ HP.out, rfl, HR.out, HB.out, fun _ => by simp⟩
      | _ => exact absurd ht (by simp [ST.kind])
    · obtain ⟨U, z, rfl, _⟩ := hb.shape8
      have H1 := Lib.hid hb.no112
      have H2 := Lib.hid (hb.no110 ht)
      clear hb hm
      go_enter Tryz.func72, Tryz.ntmps72
      go_wp2_with (go_at_call 67; refine (HU.out _ (by first | exact Or.inl rfl | exact Or.inr rfl) _).mono ?_; rintro e w2 ⟨rfl, hww⟩; have hww := hww.symm; subst hww)
      rw [assert112 H1.out]
      go_wp2_with fail
      rw [assert110 H2.out]
      go_wp2_with (go_at_call 107; refine (HG.out _ HM.out).mono ?_; rintro e w2 ⟨p, c2, r, hp, rfl, hr, hb⟩; have HP := Lib.hid hp; have HR := Lib.hid hr; have HB := Lib.hid hb; clear hp hr hb)
      go_ret
      exact ⟨_, _, HO.out _ HP.out, rfl, HR.out, HB.out, fun _ => by simp⟩
  | _ => exact absurd h8 (by simp [ST.kind])
set_option maxHeartbeats 4000000 in
set_option maxRecDepth 100000 in
theorem or_any2 {m : Mem} {w : World} {x y : Value} {s t : ST} (ha : RT m x s) (hb : RT m y t) (hs : s.kind ≠ 8) (h8 : t.kind = 8) (hm : MLe m (ucell w)) (hn : OW s + OW t < 500000) : Calls Tryz.prog 72 #[x, y] w (OrN m (some s) (some t) w) := by
  have HU := Lib.hid (fun (v : Value) (h : v = x ∨ v = y) (W : World) => show Calls Tryz.prog 67 #[v] W (SameP v W) from by
    rcases h with rfl | rfl
    · exact unwrap_any ha W
    · exact unwrap_any hb W)
  have HM := Lib.hid hm
  cases hb with
  | @any c a xs l lk hl r e =>
    have HG := Lib.hid (fun (W : World) (hW : MLe m (ucell W)) => merge_any (w := W) lk hl r e ha hW (by rw [ow_8] at hn; omega))
    have HO := Lib.hid (fun (r : List ST) (h : MgQ l s r) => (orP_mg (s := .mk 8 [] l []) rfl h).2)
    clear lk hl r e
    obtain ⟨U, z, rfl, _⟩ := ha.shape8
    have H1 := Lib.hid ha.no112
    have H2 := Lib.hid (ha.no110 hs)
    clear ha hm
    go_enter Tryz.func72, Tryz.ntmps72
    go_wp2_with (go_at_call 67; refine (HU.out _ (by first | exact Or.inl rfl | exact Or.inr rfl) _).mono ?_; rintro e w2 ⟨rfl, hww⟩; have hww := hww.symm; subst hww)
    rw [assert112 H1.out]
    go_wp2_with fail
    rw [assert110 H2.out]
    go_wp2_with (go_at_call 107; refine (HG.out _ HM.out).mono ?_; rintro e w2 ⟨p, c2, r, hp, rfl, hr, hb⟩; have HP := Lib.hid hp; have HR := Lib.hid hr; have HB := Lib.hid hb; clear hp hr hb)
    go_ret
    exact ⟨_, _, HO.out _ HP.out, rfl, HR.out, HB.out, fun _ => by simp⟩
  | _ => exact absurd h8 (by simp [ST.kind])
theorem orP_new {s t : ST} (hs : s.kind ≠ 8) (ht : t.kind ≠ 8) : OrP (some s) (some t) (some (.mk 8 [] (srtT [s, t]) [])) := by
  have hp := srtT_perm [s, t]
  refine ⟨fun v hv => inO_some.2 (inL_iff.2 (.inr ?_)), ?_⟩
  · rcases hv with h | h
    · exact ⟨s, hp.mem_iff.2 (by simp), inO_some.1 h⟩
    · exact ⟨t, hp.mem_iff.2 (by simp), inO_some.1 h⟩
  · have e : SumW (srtT [s, t]) = SumW [s, t] := by unfold SumW; exact perm_sum WS hp
    rw [OWo, ow_8, e, OWo, OWo, ow_o hs, ow_o ht]
    simp [SumW]
set_option maxHeartbeats 4000000 in
set_option maxRecDepth 100000 in
theorem or_new {m : Mem} {w : World} {x y : Value} {s t : ST} (ha : RT m x s) (hb : RT m y t) (hs : s.kind ≠ 8) (ht : t.kind ≠ 8) (hm : MLe m (ucell w)) : Calls Tryz.prog 72 #[x, y] w (OrN m (some s) (some t) w) := by
  have HU := Lib.hid (fun (v : Value) (h : v = x ∨ v = y) (W : World) => show Calls Tryz.prog 67 #[v] W (SameP v W) from by
    rcases h with rfl | rfl
    · exact unwrap_any ha W
    · exact unwrap_any hb W)
  have HM := Lib.hid hm
  have HLO := Lib.hid (lo_of_mle (hm.trans ucell_le))
  have HCC := Lib.hid (fun (W : World) (hW : MLe m (ucell W)) => compare_any s t m x y W ha hb hW)
  have HST := Lib.hid (fun h0 : cmpT s t = 0 => show s = t from (cmpT_zero ha.nt hb.nt).1 h0)
  have HX := Lib.hid ha
  have HO := Lib.hid (orP_new hs ht)
  have HNA := Lib.hid (fun (k : Nat) (W : World) (h1 : W.heap[k]? = some (.cells #[x, y] 74 (0, 0))) (h2 : w.heap.size ≤ k) (h3 : Below w.heap.size w W) => show Calls Tryz.prog 85 #[.slice (some ⟨k, 0, none⟩) 2 2] W (fun e w' => ∃ p c, e = .returned (.slice p 2 c) ∧ RO (fr m w.heap.size w' none) (.iface 110 (.slice p 2 c)) (some (.mk 8 [] (srtT [s, t]) [])) ∧ Below w.heap.size w w') from by
    have hlo : Lo m w.heap.size := lo_of_mle (hm.trans ucell_le)
    have hfr : MLe m (fr m w.heap.size W none) := fr_old hlo
    refine (newAny_any (m := fr m w.heap.size W none) (w := W) (a := some ⟨k, 0, none⟩) (c := 2) (xs := [x, y]) (l := [s, t]) ⟨Nat.le_refl _, by simp⟩ rfl ?_ ?_ (fr_leU (hm.trans (mleU h3))) (by simp)).mono ?_
    · exact rowX_two (fr_at h2 h1 (by simp)) (fr_at h2 h1 (by simp))
    · intro i h1 h2
      match i, h1, h2 with
      | 0, _, _ => exact ha.mono hfr
      | 1, _, _ => exact hb.mono hfr
      | n + 2, h1, _ => exact absurd h1 (by simp)
    · rintro e w' ⟨g, rfl, ho, hb'⟩
      obtain ⟨a, c, xs, e1, lk, hl, hr, he⟩ := ho.types
      have hr := RT.any lk hl hr he
      rw [← e1] at hr
      exact ⟨_, _, rfl, hr.mono (fr_trans hlo h3.size hb'), bl_trans h3 hb'⟩)
  obtain ⟨T, u, rfl, _⟩ := ha.shape8
  obtain ⟨U, z, rfl, _⟩ := hb.shape8
  have H1 := Lib.hid ha.no112
  have H2 := Lib.hid (ha.no110 hs)
  have H3 := Lib.hid hb.no112
  have H4 := Lib.hid (hb.no110 ht)
  generalize cmpT s t = n at HCC HST
  have HCC' := Lib.hid (fun (W : World) (hW : MLe m (ucell W)) => show Calls Tryz.prog 48 #[.iface T u, .iface U z] W (fun e w' => e = .returned (.int .i64 n) ∧ Gr W w') from HCC.out W hW)
  clear ha hb hm HCC hs ht
  by_cases hz : n = 0
  · have HE := Lib.hid (HST.out hz)
    clear HST
    subst hz
    go_enter Tryz.func72, Tryz.ntmps72
    go_wp2_with (go_at_call 67; refine (HU.out _ (by first | exact Or.inl rfl | exact Or.inr rfl) _).mono ?_; rintro e w2 ⟨rfl, hww⟩; have hww := hww.symm; subst hww)
    rw [assert112 H1.out]
    go_wp2_with fail
    rw [assert112 H3.out]
    go_wp2_with fail
    rw [assert110 H2.out]
    go_wp2_with fail
    rw [assert110 H4.out]
    go_wp2_with (go_at_call 48; refine (HCC'.out _ HM.out).mono ?_; rintro e w2 ⟨rfl, hg⟩; have HG := Lib.hid hg; clear hg)
    go_ret
    exact ⟨_, some s, ⟨fun v hv => hv.elim id (fun h => by rw [HE.out]; exact h), by simp [OWo]⟩, rfl, RT.mono (fr_old HLO.out) HX.out, HG.out.below, fun _ => by simp⟩
  · have hz' : (n == 0) = false := by simpa using hz
    clear HST
    go_enter Tryz.func72, Tryz.ntmps72
    go_wp2_with (go_at_call 67; refine (HU.out _ (by first | exact Or.inl rfl | exact Or.inr rfl) _).mono ?_; rintro e w2 ⟨rfl, hww⟩; have hww := hww.symm; subst hww)
    rw [assert112 H1.out]
    go_wp2_with fail
    rw [assert112 H3.out]
    go_wp2_with fail
    rw [assert110 H2.out]
    go_wp2_with fail
    rw [assert110 H4.out]
    go_wp2_with (first
      | (go_at_call 48; refine (HCC'.out _ HM.out).mono ?_; rintro e w2 ⟨rfl, hg⟩; have HG := Lib.hid hg; clear hg)
      | (go_at_call 85; refine (HNA.out _ _ (al_new rfl) HG.out.below.size (bl_alloc HG.out.below _)).mono ?_; rintro e w3 ⟨p, c, rfl, hr, hb⟩; have HR := Lib.hid hr; have HB := Lib.hid hb; clear hr hb))
    go_ret
    exact ⟨_, _, HO.out, rfl, HR.out, HB.out, fun _ => by simp⟩
theorem or_anyN {m : Mem} {w : World} {x y : Value} {a b : Option ST} (ha : RO m x a) (hb : RO m y b) (hm : MLe m (ucell w)) (hn : OWo a + OWo b < 500000) : Calls Tryz.prog 72 #[x, y] w (OrN m a b w) := by
  cases a with
  | none => obtain rfl : x = .nilIface := ha; exact or_nil1 hb hm
  | some s =>
    cases b with
    | none => obtain rfl : y = .nilIface := hb; exact or_nil2 ha hm
    | some t =>
      by_cases h8 : s.kind = 8
      · exact or_any1 ha hb h8 hm hn
      · by_cases h8' : t.kind = 8
        · exact or_any2 ha hb h8 h8' hm hn
        · exact or_new ha hb h8 h8' hm
theorem or_any {m : Mem} {w : World} {x y : Value} {a b : Option ST} (ha : RO m x a) (hb : RO m y b) (hm : MLe m (ucell w)) (hn : OWo a + OWo b < 500000) : Calls Tryz.prog 72 #[x, y] w (OrQ m a b w) :=
  (or_anyN ha hb hm hn).mono fun e w' ⟨y, o, h1, h2, h3, h4, _⟩ => ⟨y, o, h1, h2, h3, h4⟩
end Go.Proofs.YtaglgokeejjagaaGreat
