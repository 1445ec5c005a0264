/- The type of a value. -/
import Derived.Test.YtaglgokeejjagaaGreatTyC
import Derived.WalkSpells
import Derived.Laws.OwnMore
namespace Go.Proofs.YtaglgokeejjagaaGreat
set_option linter.unusedVariables false
set_option linter.unusedSimpArgs false
open Go.RowKit Go.Sort Go.Maps

/-- The type of a value, with just its items and properties. -/
def tyOf : Vl → ST
  | .mk kd tx ks kids =>
    if kd = 0 then .mk 1 [] [] [] else if kd = 1 ∨ kd = 2 then .mk 2 [] [] [] else if kd = 3 then .mk 3 [] [] [] else if kd = 4 then .mk 4 [] [] []
    else if kd = 5 then .mk 5 [] (kids.map tyOf) [] else .mk 6 (ks.map fun k => ⟨4, k⟩) (kids.map tyOf) []
termination_by t => SizeOf.sizeOf t
decreasing_by
  all_goals exact Vl.lt_kid (by assumption)

def TyP (t : Vl) (w : World) (e : Ending) (w' : World) : Prop := ∃ v, e = .returned v ∧ RT (fr m0 w.heap.size w' none) v (tyOf t) ∧ Below w.heap.size w w'
def TyOk (t : Vl) : Prop := ∀ (x : Value) (h : Hp) (w : World), PV t → WV t ≤ 5000 → RA h x t → HLe h (vwb 0 w none) → Calls Tryz.prog 51 #[x] w (TyP t w)

theorem HLe.bl {h : Hp} {w w' : World} (hh : HLe h (vwb 0 w none)) (hb : Below w.heap.size w w') : HLe h (vwb 0 w' none) := hh.trans (vwb_bl hb)
theorem set_rep {l : List Value} {n k : Nat} (hl : l.length = k) (hk : k < n) (z v : Value) : (l ++ List.replicate (n - k) z).toArray.setIfInBounds k v = ((l ++ [v]) ++ List.replicate (n - (k + 1)) z).toArray := by
  have e : n - k = (n - (k + 1)) + 1 := by omega
  rw [e, List.replicate_succ]
  simp [List.set_append, hl]

def ZmP (n : Nat) (kids : List Vl) (w : World) (e : Ending) (w' : World) : Prop :=
  ∃ a c vs, e = .returned (.slice a n c) ∧ lenOk n c ∧ vs.length = n ∧ RowX (fr m0 w.heap.size w' none) a vs ∧ (∀ i (h1 : i < vs.length) (h2 : i < kids.length), RT (fr m0 w.heap.size w' none) vs[i] (tyOf kids[i])) ∧ Below w.heap.size w w'

theorem info74 : (Tryz.prog.info? 74).map (fun i => (i.zero, i.size, i.bytes)) = some (some .nilIface, 1, 16) := by kernel_rfl

set_option maxHeartbeats 2000000 in
set_option maxRecDepth 100000 in
theorem zzMap98 {kids : List Vl} {h : Hp} {a : Option Addr} {c : Nat} {xs : List Value} {w : World} (IH : Hid (∀ k ∈ kids, TyOk k)) (hp : ∀ i (h : i < kids.length), PV kids[i]) (hw : ∀ k ∈ kids, WV k ≤ 5000) (hn : kids.length ≤ 5000)
    (lk : lenOk kids.length c) (r : HRow h a kids.length xs) (e : ∀ i (h1 : i < xs.length) (h2 : i < kids.length), RA h xs[i] kids[i]) (hh : HLe h (vwb 0 w none)) :
    Calls Tryz.prog 98 #[.slice a kids.length c, .func (.func 51) #[] #[]] w (ZmP kids.length kids w) := by
  obtain ⟨l1, l2⟩ := lk
  cases a with
  | none =>
    have h0 : kids.length = 0 := by
      rcases Nat.eq_zero_or_pos kids.length with h | h
      · exact h
      · obtain ⟨b, _, _, e, _⟩ := r.2 h; cases e
    have HS := Lib.hid (show kids = [] from List.eq_nil_of_length_eq_zero h0)
    have hnil := Lib.run_eql_slice_nil (P := Tryz.prog)
    go_enter Tryz.func98, Tryz.ntmps98
    go_wp2
    go_ret
    exact ⟨none, 0, [], (show Ending.returned (.slice none 0 0) = Ending.returned (.slice none kids.length 0) by rw [h0]), ⟨by omega, by decide⟩, by rw [h0]; rfl, fun h => absurd h (by simp), fun i h => absurd h (Nat.not_lt_zero _), Below.refl _ _⟩
  | some ad =>
    have HR := Lib.hid r
    have HE := Lib.hid e
    have HH := Lib.hid hh
    have HP := Lib.hid hp
    have HW := Lib.hid hw
    have HN := Lib.hid hn
    clear r e hh hp hw
    obtain ⟨i0, hi0, hz0, hz1, hz2⟩ := info_parts info74
    have hnil := Lib.run_eql_slice_nil (P := Tryz.prog)
    go_enter Tryz.func98, Tryz.ntmps98
    go_wp2_with (at_make; refine wpList_make_full _ rfl _ _ 109 rfl w.heap.size 74 i0 .nilIface 1 Tryz.underlying109 hi0 hz0 hz1 .i64 .i64 _ _ kids.length rfl rfl rfl rfl (by rw [hz2]; have := HN.out; omega) (by have := HN.out; simp [maxLen]; omega) (Nat.le_refl _) ?_; intro w1 hown1 hg1)
    have hb1 : w1.heap[w.heap.size]? = some (.cells (([] : List Value) ++ List.replicate (kids.length - 0) Value.nilIface).toArray 74 (0, 0)) := by
      rcases hown1.2 with ⟨h, _⟩ | ⟨g, cap, cur, h, _, hg, _, _, h3, h4⟩
      · cases h
      · simp only [Value.slice.injEq, Option.some.injEq, Addr.mk.injEq, and_true, true_and] at h
        obtain ⟨rfl, rfl⟩ := h
        rw [hg]
        have e : cur.toList = List.replicate kids.length Value.nilIface := by
          rw [List.take_of_length_le (by simp [h3])] at h4
          rw [h4]
          simp [Value.cells, toList_madeCells_one]
        have e2 : cur = (List.replicate kids.length Value.nilIface).toArray := by rw [← e]
        rw [e2]; rfl
    have HB1 := Lib.hid hb1
    have HG1 := Lib.hid hg1
    clear hb1 hown1 hg1 hi0 hz0 hz1 hz2
    go_loopw [15] (fun i wr => ∃ (k : Nat) (l : List Value), k ≤ kids.length ∧ i = .int .i64 k ∧ Hid (l.length = k ∧ wr.heap[w.heap.size]? = some (.cells (l ++ List.replicate (kids.length - k) Value.nilIface).toArray 74 (0, 0)) ∧
      (∀ i (h1 : i < l.length) (h2 : i < kids.length), RT (fr m0 w.heap.size wr (some w.heap.size)) l[i] (tyOf kids[i])) ∧ Below w.heap.size w wr)) (fun i _ => kids.length - (intOf i).toNat)
    case atStart => exact ⟨0, [], Nat.zero_le _, rfl, rfl, HB1.out, fun i h => absurd h (Nat.not_lt_zero _), (Below.refl _ _).grown HG1.out (Nat.le_refl _) (fun k e => by cases e)⟩
    case round =>
      obtain ⟨k, l, hk, rfl, hI⟩ := hrel
      by_cases hlt : k < kids.length
      · obtain ⟨b, cs, Tc, e0, hbk, hcs⟩ := HR.out.2 (by omega)
        obtain rfl := Option.some.inj e0
        clear e0
        have hkx : k < xs.length := by have := HR.out.1; omega
        have hh1 := HH.out.bl hI.out.2.2.2
        have z0 : wr.cell? ⟨b, k, none⟩ = some xs[k] := cell_blk (vwb_heap (hh1 _ _ hbk)).1 k (by rw [hcs k hlt, List.getElem?_eq_getElem hkx])
        have HIN := Lib.hid (IH.out _ (List.getElem_mem hlt))
        have HPk := Lib.hid (HP.out k hlt)
        have HWk := Lib.hid (HW.out _ (List.getElem_mem hlt))
        have HEk := Lib.hid (HE.out k hkx hlt)
        have HH1 := Lib.hid hh1
        have hsz := lt_blk hI.out.2.1
        have hnk : k < (l ++ List.replicate (kids.length - k) Value.nilIface).toArray.size := by have := hI.out.1; simp; omega
        clear hh1 hbk hcs
        go_wp2_with (go_at_call 51; refine (HIN.out _ h _ HPk.out HWk.out HEk.out HH1.out).mono ?_; rintro e w2 ⟨v, rfl, hrt, hbl⟩; obtain ⟨Ty, y, rfl⟩ := hrt.shape; have HRT := Lib.hid hrt; have HBL := Lib.hid hbl; have hb2 := bl_heap hbl hI.out.2.1; have c2 := cell_blk hb2 k (Array.getElem?_eq_getElem hnk); have f2 := froz_blk hb2 k; have HB2 := Lib.hid hb2; clear hb2 hrt hbl)
        go_roundw
        case rel =>
          have hlo := lo_m0 w.heap.size
          have hst : ∀ u, MLe (fr m0 w.heap.size wr (some w.heap.size)) (fr m0 w.heap.size (w2.setCell ⟨w.heap.size, k, none⟩ u) (some w.heap.size)) := fun u => fr_step (fun j h1 h2 h3 => by
            rw [Below.heap_setCell _ _ _ j (fun e => h3 (by rw [e]))]; exact HBL.out.block j h2) (.inl rfl)
          have hnew : ∀ u, MLe (fr m0 wr.heap.size w2 none) (fr m0 w.heap.size (w2.setCell ⟨w.heap.size, k, none⟩ u) (some w.heap.size)) := fun u => fr_deep (lo_m0 _) (Nat.le_of_lt hsz) (fun j e => by cases e; exact hsz) (fun j h1 h2 h3 =>
            Below.heap_setCell _ _ _ j (fun e => h3 (by rw [e]))) (.inl rfl)
          refine ⟨k + 1, l ++ [.iface Ty y], by omega, by go_num, by simp [hI.out.1], ?_, ?_, ?_⟩
          · rw [← set_rep hI.out.1 hlt]
            exact set_blk HB2.out k _
          · intro i h1 h2
            by_cases hi : i < l.length
            · rw [List.getElem_append_left hi]
              exact (hI.out.2.2.1 i hi h2).mono (hst _)
            · obtain rfl : i = l.length := by simp at h1; omega
              have ek := hI.out.1
              have e2 : kids[l.length] = kids[k] := by simp only [ek]
              rw [e2]
              simp only [List.getElem_concat_length]
              exact HRT.out.mono (hnew _)
          · exact (bl_trans hI.out.2.2.2 HBL.out).setCell (Nat.le_refl _) _
        case measure => simp [intOf]; omega
      · have ek : k = kids.length := by omega
        have HEK := Lib.hid ek
        clear ek
        go_wp2
        go_ret
        obtain ⟨el, hb, hr, hbl⟩ := hI.out
        have ek := HEK.out
        have e0 : kids.length - k = 0 := by omega
        rw [e0, List.replicate_zero, List.append_nil] at hb
        refine ⟨_, kids.length, l, rfl, ⟨Nat.le_refl _, by omega⟩, by omega, ?_, fun i h1 h2 => (hr i h1 h2).mono fr_none, hbl⟩
        intro hn
        refine ⟨w.heap.size, 0, rfl, fun i hi j u hu => ?_⟩
        change [l.getD i default][j]? = some u at hu
        rw [getD_eq _ _ hi] at hu
        obtain rfl : j = 0 := by rcases j with _ | j; rfl; simp at hu
        simp only [List.getElem?_cons_zero, Option.some.injEq] at hu
        subst hu
        unfold fr
        rw [if_pos (Nat.le_refl _), if_neg (by simp)]
        simp only [Nat.mul_one, Nat.zero_add, Nat.add_zero]
        exact ucell_blk hb i (by simp)
end Go.Proofs.YtaglgokeejjagaaGreat
