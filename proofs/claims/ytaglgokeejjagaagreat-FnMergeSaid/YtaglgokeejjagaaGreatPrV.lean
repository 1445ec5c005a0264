/- 'ProperValue' says whether a value has what its kind has alone. -/
import Derived.Test.YtaglgokeejjagaaGreatOwn
import Derived.Test.YtaglgokeejjagaaGreatDigits
import Derived.BigQuiet
namespace Go.Proofs.YtaglgokeejjagaaGreat
set_option linter.unusedVariables false
set_option linter.unusedSimpArgs false
open Go.RowKit Go.Sort

/-- One text stands before another one. -/
def Less (a b : ByteArray) : Prop := Op.bytesLess a.toList b.toList = true

inductive PV : Vl → Prop
  | mk {kd : Int} {tx : ByteArray} {ks : List ByteArray} {kids : List Vl} (hk : 0 ≤ kd ∧ kd ≤ 6) (ht : tx.toList = [] ∨ kd = 3 ∨ kd = 4) (hd : kd = 3 → digitsB tx = true)
      (h1 : kids.length = 0 ∨ kd = 5 ∨ kd = 6) (h2 : kd = 6 → ks.length = kids.length) (h3 : kd ≠ 6 → ks.length = 0)
      (hs : kd = 6 → ∀ i (h : i + 1 < ks.length), Less (ks[i]'(Nat.lt_of_succ_lt h)) ks[i + 1]) (hc : ∀ i (h : i < kids.length), PV kids[i]) : PV (.mk kd tx ks kids)

noncomputable def properV (t : Vl) : Bool := @decide (PV t) (Classical.propDecidable _)
theorem properV_true {t : Vl} (h : PV t) : properV t = true := by unfold properV; exact @decide_eq_true _ (Classical.propDecidable _) h
theorem properV_false {t : Vl} (h : ¬ PV t) : properV t = false := by unfold properV; exact @decide_eq_false _ (Classical.propDecidable _) h
theorem pv_of {t : Vl} (h : properV t = true) : PV t := by unfold properV at h; exact @of_decide_eq_true _ (Classical.propDecidable _) h

theorem PV.out {kd : Int} {tx : ByteArray} {ks : List ByteArray} {kids : List Vl} (h : PV (.mk kd tx ks kids)) : (0 ≤ kd ∧ kd ≤ 6) ∧ (tx.toList = [] ∨ kd = 3 ∨ kd = 4) ∧ (kd = 3 → digitsB tx = true) ∧
    (kids.length = 0 ∨ kd = 5 ∨ kd = 6) ∧ (kd = 6 → ks.length = kids.length) ∧ (kd ≠ 6 → ks.length = 0) ∧ (kd = 6 → ∀ i (h : i + 1 < ks.length), Less (ks[i]'(Nat.lt_of_succ_lt h)) ks[i + 1]) ∧ (∀ i (h : i < kids.length), PV kids[i]) := by
  cases h with | mk g1 g2 g3 g4 g5 g6 g7 g8 => exact ⟨g1, g2, g3, g4, g5, g6, g7, g8⟩

def PvPost (t : Vl) (w : World) (e : Ending) (w' : World) : Prop := e = .returned (.bool (properV t)) ∧ Gr w w'
theorem PvPost.yes {t : Vl} {w w' : World} (h : PV t) (g : Gr w w') : PvPost t w (.returned (.bool true)) w' := ⟨by rw [properV_true h], g⟩
theorem PvPost.no {t : Vl} {w w' : World} (h : ¬ PV t) (g : Gr w w') : PvPost t w (.returned (.bool false)) w' := ⟨by rw [properV_false h], g⟩

set_option maxHeartbeats 4000000 in
set_option maxRecDepth 100000 in
theorem pv_kind0 {tx : ByteArray} {ks : List ByteArray} {kids : List Vl} {ak a1 : Option Addr} {ck c1 : Nat} {w : World} (lk1 : ks.length ≤ ck) (lk2 : ck ≤ 9223372036854775807) (l11 : kids.length ≤ c1) (l12 : c1 ≤ 9223372036854775807)
    (hbt : tx.size ≤ 140737488351232) :
    Calls Tryz.prog 13 #[.agg #[.int .i64 0, .string tx, .slice ak ks.length ck, .slice a1 kids.length c1]] w (PvPost (.mk 0 tx ks kids) w) := by
  by_cases htx : tx.toList = []
  · have htb : (!tx.toList.isEmpty) = false := by simp [htx]
    by_cases hn0 : kids.length = 0
    · by_cases hk0 : ks.length = 0
      · skip
        go_enter Tryz.func13, Tryz.ntmps13
        go_wp2
        refine wp_loop_once ?_
        go_wp2
        go_ret
        exact PvPost.yes (.mk (by omega) (.inl htx) (fun e => by omega) (.inl hn0) (fun e => by omega) (fun _ => hk0) (fun e => by omega) (fun i h => by omega)) ((Gr.refl _).alloc _)
      · skip
        go_enter Tryz.func13, Tryz.ntmps13
        go_wp2
        go_ret
        exact PvPost.no (fun h => by have g := h.out; have := g.2.2.2.2.2.1 (by omega); omega) ((Gr.refl _).alloc _)
    · skip
      go_enter Tryz.func13, Tryz.ntmps13
      go_wp2
      go_ret
      exact PvPost.no (fun h => by have g := h.out; have := g.2.2.2.1; omega) ((Gr.refl _).alloc _)
  · have htb : (!tx.toList.isEmpty) = true := by simp [htx]
    go_enter Tryz.func13, Tryz.ntmps13
    go_wp2
    go_ret
    exact PvPost.no (fun h => by have g := h.out; rcases g.2.1 with h | h | h; exact htx h; omega; omega) ((Gr.refl _).alloc _)

set_option maxHeartbeats 4000000 in
set_option maxRecDepth 100000 in
theorem pv_kind1 {tx : ByteArray} {ks : List ByteArray} {kids : List Vl} {ak a1 : Option Addr} {ck c1 : Nat} {w : World} (lk1 : ks.length ≤ ck) (lk2 : ck ≤ 9223372036854775807) (l11 : kids.length ≤ c1) (l12 : c1 ≤ 9223372036854775807)
    (hbt : tx.size ≤ 140737488351232) :
    Calls Tryz.prog 13 #[.agg #[.int .i64 1, .string tx, .slice ak ks.length ck, .slice a1 kids.length c1]] w (PvPost (.mk 1 tx ks kids) w) := by
  by_cases htx : tx.toList = []
  · have htb : (!tx.toList.isEmpty) = false := by simp [htx]
    by_cases hn0 : kids.length = 0
    · by_cases hk0 : ks.length = 0
      · skip
        go_enter Tryz.func13, Tryz.ntmps13
        go_wp2
        refine wp_loop_once ?_
        go_wp2
        go_ret
        exact PvPost.yes (.mk (by omega) (.inl htx) (fun e => by omega) (.inl hn0) (fun e => by omega) (fun _ => hk0) (fun e => by omega) (fun i h => by omega)) ((Gr.refl _).alloc _)
      · skip
        go_enter Tryz.func13, Tryz.ntmps13
        go_wp2
        go_ret
        exact PvPost.no (fun h => by have g := h.out; have := g.2.2.2.2.2.1 (by omega); omega) ((Gr.refl _).alloc _)
    · skip
      go_enter Tryz.func13, Tryz.ntmps13
      go_wp2
      go_ret
      exact PvPost.no (fun h => by have g := h.out; have := g.2.2.2.1; omega) ((Gr.refl _).alloc _)
  · have htb : (!tx.toList.isEmpty) = true := by simp [htx]
    go_enter Tryz.func13, Tryz.ntmps13
    go_wp2
    go_ret
    exact PvPost.no (fun h => by have g := h.out; rcases g.2.1 with h | h | h; exact htx h; omega; omega) ((Gr.refl _).alloc _)

set_option maxHeartbeats 4000000 in
set_option maxRecDepth 100000 in
theorem pv_kind2 {tx : ByteArray} {ks : List ByteArray} {kids : List Vl} {ak a1 : Option Addr} {ck c1 : Nat} {w : World} (lk1 : ks.length ≤ ck) (lk2 : ck ≤ 9223372036854775807) (l11 : kids.length ≤ c1) (l12 : c1 ≤ 9223372036854775807)
    (hbt : tx.size ≤ 140737488351232) :
    Calls Tryz.prog 13 #[.agg #[.int .i64 2, .string tx, .slice ak ks.length ck, .slice a1 kids.length c1]] w (PvPost (.mk 2 tx ks kids) w) := by
  by_cases htx : tx.toList = []
  · have htb : (!tx.toList.isEmpty) = false := by simp [htx]
    by_cases hn0 : kids.length = 0
    · by_cases hk0 : ks.length = 0
      · skip
        go_enter Tryz.func13, Tryz.ntmps13
        go_wp2
        refine wp_loop_once ?_
        go_wp2
        go_ret
        exact PvPost.yes (.mk (by omega) (.inl htx) (fun e => by omega) (.inl hn0) (fun e => by omega) (fun _ => hk0) (fun e => by omega) (fun i h => by omega)) ((Gr.refl _).alloc _)
      · skip
        go_enter Tryz.func13, Tryz.ntmps13
        go_wp2
        go_ret
        exact PvPost.no (fun h => by have g := h.out; have := g.2.2.2.2.2.1 (by omega); omega) ((Gr.refl _).alloc _)
    · skip
      go_enter Tryz.func13, Tryz.ntmps13
      go_wp2
      go_ret
      exact PvPost.no (fun h => by have g := h.out; have := g.2.2.2.1; omega) ((Gr.refl _).alloc _)
  · have htb : (!tx.toList.isEmpty) = true := by simp [htx]
    go_enter Tryz.func13, Tryz.ntmps13
    go_wp2
    go_ret
    exact PvPost.no (fun h => by have g := h.out; rcases g.2.1 with h | h | h; exact htx h; omega; omega) ((Gr.refl _).alloc _)

set_option maxHeartbeats 4000000 in
set_option maxRecDepth 100000 in
theorem pv_kind3 {tx : ByteArray} {ks : List ByteArray} {kids : List Vl} {ak a1 : Option Addr} {ck c1 : Nat} {w : World} (lk1 : ks.length ≤ ck) (lk2 : ck ≤ 9223372036854775807) (l11 : kids.length ≤ c1) (l12 : c1 ≤ 9223372036854775807)
    (hbt : tx.size ≤ 140737488351232) :
    Calls Tryz.prog 13 #[.agg #[.int .i64 3, .string tx, .slice ak ks.length ck, .slice a1 kids.length c1]] w (PvPost (.mk 3 tx ks kids) w) := by
  by_cases hdg : digitsB tx = true
  · by_cases htx : tx.toList = []
    · have htb : (!tx.toList.isEmpty) = false := by simp [htx]
      by_cases hn0 : kids.length = 0
      · by_cases hk0 : ks.length = 0
        · skip
          go_enter Tryz.func13, Tryz.ntmps13
          go_wp2_with (go_at_call 37; refine (digits_any _ hbt _).mono ?_; rintro e w2 ⟨rfl, rfl⟩)
          refine wp_loop_once ?_
          go_wp2
          go_ret
          exact PvPost.yes (.mk (by omega) (.inl htx) (fun _ => hdg) (.inl hn0) (fun e => by omega) (fun _ => hk0) (fun e => by omega) (fun i h => by omega)) ((Gr.refl _).alloc _)
        · skip
          go_enter Tryz.func13, Tryz.ntmps13
          go_wp2_with (go_at_call 37; refine (digits_any _ hbt _).mono ?_; rintro e w2 ⟨rfl, rfl⟩)
          go_ret
          exact PvPost.no (fun h => by have g := h.out; have := g.2.2.2.2.2.1 (by omega); omega) ((Gr.refl _).alloc _)
      · skip
        go_enter Tryz.func13, Tryz.ntmps13
        go_wp2_with (go_at_call 37; refine (digits_any _ hbt _).mono ?_; rintro e w2 ⟨rfl, rfl⟩)
        go_ret
        exact PvPost.no (fun h => by have g := h.out; have := g.2.2.2.1; omega) ((Gr.refl _).alloc _)
    · have htb : (!tx.toList.isEmpty) = true := by simp [htx]
      by_cases hn0 : kids.length = 0
      · by_cases hk0 : ks.length = 0
        · skip
          go_enter Tryz.func13, Tryz.ntmps13
          go_wp2_with (go_at_call 37; refine (digits_any _ hbt _).mono ?_; rintro e w2 ⟨rfl, rfl⟩)
          refine wp_loop_once ?_
          go_wp2
          go_ret
          exact PvPost.yes (.mk (by omega) (.inr (.inl rfl)) (fun _ => hdg) (.inl hn0) (fun e => by omega) (fun _ => hk0) (fun e => by omega) (fun i h => by omega)) ((Gr.refl _).alloc _)
        · skip
          go_enter Tryz.func13, Tryz.ntmps13
          go_wp2_with (go_at_call 37; refine (digits_any _ hbt _).mono ?_; rintro e w2 ⟨rfl, rfl⟩)
          go_ret
          exact PvPost.no (fun h => by have g := h.out; have := g.2.2.2.2.2.1 (by omega); omega) ((Gr.refl _).alloc _)
      · skip
        go_enter Tryz.func13, Tryz.ntmps13
        go_wp2_with (go_at_call 37; refine (digits_any _ hbt _).mono ?_; rintro e w2 ⟨rfl, rfl⟩)
        go_ret
        exact PvPost.no (fun h => by have g := h.out; have := g.2.2.2.1; omega) ((Gr.refl _).alloc _)
  · have hdg2 : digitsB tx = false := by simpa using hdg
    by_cases htx : tx.toList = []
    · have htb : (!tx.toList.isEmpty) = false := by simp [htx]
      go_enter Tryz.func13, Tryz.ntmps13
      go_wp2_with (go_at_call 37; refine (digits_any _ hbt _).mono ?_; rintro e w2 ⟨rfl, rfl⟩)
      go_ret
      exact PvPost.no (fun h => by have g := h.out; exact hdg (g.2.2.1 rfl)) ((Gr.refl _).alloc _)
    · have htb : (!tx.toList.isEmpty) = true := by simp [htx]
      go_enter Tryz.func13, Tryz.ntmps13
      go_wp2_with (go_at_call 37; refine (digits_any _ hbt _).mono ?_; rintro e w2 ⟨rfl, rfl⟩)
      go_ret
      exact PvPost.no (fun h => by have g := h.out; exact hdg (g.2.2.1 rfl)) ((Gr.refl _).alloc _)

set_option maxHeartbeats 4000000 in
set_option maxRecDepth 100000 in
theorem pv_kind4 {tx : ByteArray} {ks : List ByteArray} {kids : List Vl} {ak a1 : Option Addr} {ck c1 : Nat} {w : World} (lk1 : ks.length ≤ ck) (lk2 : ck ≤ 9223372036854775807) (l11 : kids.length ≤ c1) (l12 : c1 ≤ 9223372036854775807)
    (hbt : tx.size ≤ 140737488351232) :
    Calls Tryz.prog 13 #[.agg #[.int .i64 4, .string tx, .slice ak ks.length ck, .slice a1 kids.length c1]] w (PvPost (.mk 4 tx ks kids) w) := by
  by_cases htx : tx.toList = []
  · have htb : (!tx.toList.isEmpty) = false := by simp [htx]
    by_cases hn0 : kids.length = 0
    · by_cases hk0 : ks.length = 0
      · skip
        go_enter Tryz.func13, Tryz.ntmps13
        go_wp2
        refine wp_loop_once ?_
        go_wp2
        go_ret
        exact PvPost.yes (.mk (by omega) (.inl htx) (fun e => by omega) (.inl hn0) (fun e => by omega) (fun _ => hk0) (fun e => by omega) (fun i h => by omega)) ((Gr.refl _).alloc _)
      · skip
        go_enter Tryz.func13, Tryz.ntmps13
        go_wp2
        go_ret
        exact PvPost.no (fun h => by have g := h.out; have := g.2.2.2.2.2.1 (by omega); omega) ((Gr.refl _).alloc _)
    · skip
      go_enter Tryz.func13, Tryz.ntmps13
      go_wp2
      go_ret
      exact PvPost.no (fun h => by have g := h.out; have := g.2.2.2.1; omega) ((Gr.refl _).alloc _)
  · have htb : (!tx.toList.isEmpty) = true := by simp [htx]
    by_cases hn0 : kids.length = 0
    · by_cases hk0 : ks.length = 0
      · skip
        go_enter Tryz.func13, Tryz.ntmps13
        go_wp2
        refine wp_loop_once ?_
        go_wp2
        go_ret
        exact PvPost.yes (.mk (by omega) (.inr (.inr rfl)) (fun e => by omega) (.inl hn0) (fun e => by omega) (fun _ => hk0) (fun e => by omega) (fun i h => by omega)) ((Gr.refl _).alloc _)
      · skip
        go_enter Tryz.func13, Tryz.ntmps13
        go_wp2
        go_ret
        exact PvPost.no (fun h => by have g := h.out; have := g.2.2.2.2.2.1 (by omega); omega) ((Gr.refl _).alloc _)
    · skip
      go_enter Tryz.func13, Tryz.ntmps13
      go_wp2
      go_ret
      exact PvPost.no (fun h => by have g := h.out; have := g.2.2.2.1; omega) ((Gr.refl _).alloc _)

set_option maxHeartbeats 4000000 in
set_option maxRecDepth 100000 in
theorem pv_kind5 {tx : ByteArray} {ks : List ByteArray} {kids : List Vl} {ak a1 : Option Addr} {ck c1 : Nat} {w : World} (lk1 : ks.length ≤ ck) (lk2 : ck ≤ 9223372036854775807) (l11 : kids.length ≤ c1) (l12 : c1 ≤ 9223372036854775807)
    (hbt : tx.size ≤ 140737488351232)
    {n : Nat} {m : Mem} (IH : Hid (∀ (t : Vl) (m : Mem) (kd : Int) (tx : ByteArray) (ak : Option Addr) (nk ck : Nat) (a1 : Option Addr) (n1 c1 : Nat) (w : World), SizeOf.sizeOf t < n → BdV t → MV m (vlCells kd tx ak nk ck a1 n1 c1) t → MLe m w.cell? →
      Calls Tryz.prog 13 #[.agg #[.int .i64 kd, .string tx, .slice ak nk ck, .slice a1 n1 c1]] w (PvPost t w)))
    (HK : Hid (RowS m ak ks)) (H1 : Hid (RowV m a1 kids)) (HM : Hid (MLe m w.cell?)) (HB5 : Hid (∀ k ∈ kids, BdV k)) (HN : Hid (∀ k ∈ kids, SizeOf.sizeOf k < n)) :
    Calls Tryz.prog 13 #[.agg #[.int .i64 5, .string tx, .slice ak ks.length ck, .slice a1 kids.length c1]] w (PvPost (.mk 5 tx ks kids) w) := by
  by_cases htx : tx.toList = []
  · have htb : (!tx.toList.isEmpty) = false := by simp [htx]
    by_cases hk0 : ks.length = 0
    · have HK0 := Lib.hid hk0
      have hk1 : ks.length ≤ 0 := by omega
      skip
      clear hk0
      by_cases hn0 : kids.length ≤ 0
      · go_enter Tryz.func13, Tryz.ntmps13
        go_wp2
        refine wp_loop_once ?_
        go_wp2
        go_ret
        exact PvPost.yes (.mk (by omega) (.inl htx) (fun e => by omega) (by omega) (fun e => by omega) (fun _ => HK0.out) (fun e => by omega) (fun i h => by omega)) ((Gr.refl _).alloc _)
      · skip
        go_enter Tryz.func13, Tryz.ntmps13
        go_wp2
        go_loopw [3, 4, 81] (fun _ _ i wr => ∃ k : Nat, k ≤ kids.length ∧ i = .int .i64 k ∧ Hid (
            wr.heap[w.heap.size]? = some (.cells #[.int .i64 5, .string tx, .slice ak ks.length ck, .slice a1 kids.length c1] 36 (0, 0)) ∧ Gr w wr ∧ (∀ j (h : j < kids.length), j < k → PV kids[j]))) (fun _ _ i _ => kids.length - (intOf i).toNat)
        case atStart => exact ⟨0, Nat.zero_le _, rfl, al_new rfl, (Gr.refl _).alloc _, fun j _ h => absurd h (Nat.not_lt_zero _)⟩
        case round =>
          obtain ⟨k, hkn, rfl, hI⟩ := hrel
          by_cases hlt : k < kids.length
          · have hm1 := HM.out.trans hI.out.2.1.mle
            obtain ⟨b, off, kd', tx', ak', nk, ck', a1', n1, c1', rfl, e0, e1, e2, e3, hkv⟩ := H1.out.at hlt
            replace e0 := hm1 _ _ e0
            replace e1 := hm1 _ _ e1
            replace e2 := hm1 _ _ e2
            replace e3 := hm1 _ _ e3
            have HKV := Lib.hid hkv
            have HM1 := Lib.hid hm1
            have HSk := Lib.hid (HN.out _ (List.getElem_mem hlt))
            have HBk := Lib.hid (HB5.out _ (List.getElem_mem hlt))
            have HGR := Lib.hid hI.out.2.1
            have hX := hI.out.1
            clear hkv hm1
            go_wp2
            have hc := al_new (w := wr) (o := .cells #[.int .i64 kd', .string tx', .slice ak' nk ck', .slice a1' n1 c1'] 36) rfl
            have hX1 := al_old (o := .cells #[.int .i64 kd', .string tx', .slice ak' nk ck', .slice a1' n1 c1'] 36) hX
            have hM2 := mle_alloc HM1.out (.cells #[.int .i64 kd', .string tx', .slice ak' nk ck', .slice a1' n1 c1'] 36)
            have hG2 := HGR.out.alloc (.cells #[.int .i64 kd', .string tx', .slice ak' nk ck', .slice a1' n1 c1'] 36)
            generalize (wr.alloc (.cells #[.int .i64 kd', .string tx', .slice ak' nk ck', .slice a1' n1 c1'] 36)) = W at hc hX1 hM2 hG2 ⊢
            have d0 := fun n os => (gr_grow W n os).cell (cell_blk hc 0 rfl)
            have d1 := fun n os => (gr_grow W n os).cell (cell_blk hc 1 rfl)
            have d2 := fun n os => (gr_grow W n os).cell (cell_blk hc 2 rfl)
            have d3 := fun n os => (gr_grow W n os).cell (cell_blk hc 3 rfl)
            have x0 := fun n os => (gr_grow W n os).cell (cell_blk hX1 0 rfl)
            have x2 := fun n os => (gr_grow W n os).cell (cell_blk hX1 2 rfl)
            have hmix : Tryz.prog.follows .mixedOrders = true := by kernel_rfl
            have HXX := Lib.hid hX1
            have HM2 := Lib.hid hM2
            have HG2 := Lib.hid hG2
            clear hX1 hM2 hG2
            clear hc hX e0 e1 e2 e3
            by_cases hpk : PV kids[k]
            · have hp := properV_true hpk
              have HCALL := Lib.hid (fun (W' : World) (h' : MLe m W'.cell?) => show Calls Tryz.prog 13 #[.agg #[.int .i64 kd', .string tx', .slice ak' nk ck', .slice a1' n1 c1']] W' (fun e w' => e = .returned (.bool true) ∧ Gr W' w') from by have h9 := IH.out _ m _ _ _ _ _ _ _ _ W' HSk.out HBk.out HKV.out h'; unfold PvPost at h9; rw [hp] at h9; exact h9)
              clear hp
              refine wp_region_quiet_grown hmix (by kernel_rfl) ?_
              repeat (go_big_quiet_step ((go_at_call 13; with_reducible exact quiet_gr (v := .bool true) (HCALL.out _ (HM2.out.trans (gr_grow _ _ _).mle)))))
              refine wpQuiet_nil ?_
              intro _ hw'
              obtain ⟨⟨nq, osq⟩, hw''⟩ := hw'
              subst hw''
              clear d0 d1 d2 d3 x0 x2
              go_wp2
              go_roundw
              case rel =>
                  refine ⟨k + 1, by omega, by go_num, bl_heap (gr_grow _ _ _).below HXX.out, HG2.out.trans (gr_grow _ _ _), ?_⟩
                  intro j hj hjk
                  by_cases e : j = k
                  · subst e; exact hpk
                  · exact hI.out.2.2 j hj (by omega)
              case measure => simp [intOf]; omega
            · have hp := properV_false hpk
              have HCALL := Lib.hid (fun (W' : World) (h' : MLe m W'.cell?) => show Calls Tryz.prog 13 #[.agg #[.int .i64 kd', .string tx', .slice ak' nk ck', .slice a1' n1 c1']] W' (fun e w' => e = .returned (.bool false) ∧ Gr W' w') from by have h9 := IH.out _ m _ _ _ _ _ _ _ _ W' HSk.out HBk.out HKV.out h'; unfold PvPost at h9; rw [hp] at h9; exact h9)
              clear hp
              refine wp_region_quiet_grown hmix (by kernel_rfl) ?_
              repeat (go_big_quiet_step ((go_at_call 13; with_reducible exact quiet_gr (v := .bool false) (HCALL.out _ (HM2.out.trans (gr_grow _ _ _).mle)))))
              refine wpQuiet_nil ?_
              intro _ hw'
              obtain ⟨⟨nq, osq⟩, hw''⟩ := hw'
              subst hw''
              clear d0 d1 d2 d3 x0 x2
              go_wp2
              go_ret
              exact PvPost.no (fun h => hpk (h.out.2.2.2.2.2.2.2 k hlt)) (HG2.out.trans (gr_grow _ _ _))
          · go_wp2
            go_ret
            exact PvPost.yes (.mk (by omega) (.inl htx) (fun e => by omega) (by omega) (fun e => by omega) (fun _ => HK0.out) (fun e => by omega) (fun i h => hI.out.2.2 i h (by omega))) hI.out.2.1
    · have HNE := Lib.hid hk0
      have hbb : 0 < ks.length := by omega
      clear hk0
      by_cases hn0 : kids.length ≤ 0
      · skip
        go_enter Tryz.func13, Tryz.ntmps13
        go_wp2
        go_ret
        exact PvPost.no (fun h => by have g := h.out; have := g.2.2.2.2.2.1 (by omega); omega) ((Gr.refl _).alloc _)
      · skip
        go_enter Tryz.func13, Tryz.ntmps13
        go_wp2
        go_ret
        exact PvPost.no (fun h => by have g := h.out; have := g.2.2.2.2.2.1 (by omega); omega) ((Gr.refl _).alloc _)
  · have htb : (!tx.toList.isEmpty) = true := by simp [htx]
    go_enter Tryz.func13, Tryz.ntmps13
    go_wp2
    go_ret
    exact PvPost.no (fun h => by have g := h.out; rcases g.2.1 with h | h | h; exact htx h; omega; omega) ((Gr.refl _).alloc _)

set_option maxHeartbeats 4000000 in
set_option maxRecDepth 100000 in
theorem pv_kind6 {tx : ByteArray} {ks : List ByteArray} {kids : List Vl} {ak a1 : Option Addr} {ck c1 : Nat} {w : World} (lk1 : ks.length ≤ ck) (lk2 : ck ≤ 9223372036854775807) (l11 : kids.length ≤ c1) (l12 : c1 ≤ 9223372036854775807)
    (hbt : tx.size ≤ 140737488351232)
    {n : Nat} {m : Mem} (IH : Hid (∀ (t : Vl) (m : Mem) (kd : Int) (tx : ByteArray) (ak : Option Addr) (nk ck : Nat) (a1 : Option Addr) (n1 c1 : Nat) (w : World), SizeOf.sizeOf t < n → BdV t → MV m (vlCells kd tx ak nk ck a1 n1 c1) t → MLe m w.cell? →
      Calls Tryz.prog 13 #[.agg #[.int .i64 kd, .string tx, .slice ak nk ck, .slice a1 n1 c1]] w (PvPost t w)))
    (HK : Hid (RowS m ak ks)) (H1 : Hid (RowV m a1 kids)) (HM : Hid (MLe m w.cell?)) (HB5 : Hid (∀ k ∈ kids, BdV k)) (HN : Hid (∀ k ∈ kids, SizeOf.sizeOf k < n)) :
    Calls Tryz.prog 13 #[.agg #[.int .i64 6, .string tx, .slice ak ks.length ck, .slice a1 kids.length c1]] w (PvPost (.mk 6 tx ks kids) w) := by
  by_cases htx : tx.toList = []
  · have htb : (!tx.toList.isEmpty) = false := by simp [htx]
    by_cases hk0 : ks.length = kids.length
    · have HK0 := Lib.hid hk0
      have hk1 : ks.length ≤ kids.length := by omega
      have hk2 : kids.length ≤ ks.length := by omega
      clear hk0
      by_cases hn0 : kids.length ≤ 0
      · go_enter Tryz.func13, Tryz.ntmps13
        go_wp2
        refine wp_loop_once ?_
        go_wp2
        go_ret
        exact PvPost.yes (.mk (by omega) (.inl htx) (fun e => by omega) (by omega) (fun _ => HK0.out) (fun e => by omega) (fun _ i h => by omega) (fun i h => by omega)) ((Gr.refl _).alloc _)
      · skip
        go_enter Tryz.func13, Tryz.ntmps13
        go_wp2
        go_loopw [3, 4, 81] (fun _ _ i wr => ∃ k : Nat, k ≤ kids.length ∧ i = .int .i64 k ∧ Hid (
            wr.heap[w.heap.size]? = some (.cells #[.int .i64 6, .string tx, .slice ak ks.length ck, .slice a1 kids.length c1] 36 (0, 0)) ∧ Gr w wr ∧ (∀ j (h : j < kids.length), j < k → PV kids[j]) ∧ (∀ j (h : j + 1 < ks.length), j + 1 < k → Less (ks[j]'(Nat.lt_of_succ_lt h)) ks[j + 1]))) (fun _ _ i _ => kids.length - (intOf i).toNat)
        case atStart => exact ⟨0, Nat.zero_le _, rfl, al_new rfl, (Gr.refl _).alloc _, fun j _ h => absurd h (Nat.not_lt_zero _), fun j _ h => absurd h (Nat.not_lt_zero _)⟩
        case round =>
          obtain ⟨k, hkn, rfl, hI⟩ := hrel
          by_cases hlt : k < kids.length
          · have hm1 := HM.out.trans hI.out.2.1.mle
            obtain ⟨b, off, kd', tx', ak', nk, ck', a1', n1, c1', rfl, e0, e1, e2, e3, hkv⟩ := H1.out.at hlt
            replace e0 := hm1 _ _ e0
            replace e1 := hm1 _ _ e1
            replace e2 := hm1 _ _ e2
            replace e3 := hm1 _ _ e3
            have HKV := Lib.hid hkv
            have HM1 := Lib.hid hm1
            have HSk := Lib.hid (HN.out _ (List.getElem_mem hlt))
            have HBk := Lib.hid (HB5.out _ (List.getElem_mem hlt))
            have HGR := Lib.hid hI.out.2.1
            have hX := hI.out.1
            clear hkv hm1
            go_wp2
            have hc := al_new (w := wr) (o := .cells #[.int .i64 kd', .string tx', .slice ak' nk ck', .slice a1' n1 c1'] 36) rfl
            have hX1 := al_old (o := .cells #[.int .i64 kd', .string tx', .slice ak' nk ck', .slice a1' n1 c1'] 36) hX
            have hM2 := mle_alloc HM1.out (.cells #[.int .i64 kd', .string tx', .slice ak' nk ck', .slice a1' n1 c1'] 36)
            have hG2 := HGR.out.alloc (.cells #[.int .i64 kd', .string tx', .slice ak' nk ck', .slice a1' n1 c1'] 36)
            generalize (wr.alloc (.cells #[.int .i64 kd', .string tx', .slice ak' nk ck', .slice a1' n1 c1'] 36)) = W at hc hX1 hM2 hG2 ⊢
            have d0 := fun n os => (gr_grow W n os).cell (cell_blk hc 0 rfl)
            have d1 := fun n os => (gr_grow W n os).cell (cell_blk hc 1 rfl)
            have d2 := fun n os => (gr_grow W n os).cell (cell_blk hc 2 rfl)
            have d3 := fun n os => (gr_grow W n os).cell (cell_blk hc 3 rfl)
            have x0 := fun n os => (gr_grow W n os).cell (cell_blk hX1 0 rfl)
            have x2 := fun n os => (gr_grow W n os).cell (cell_blk hX1 2 rfl)
            have hmix : Tryz.prog.follows .mixedOrders = true := by kernel_rfl
            have HXX := Lib.hid hX1
            have HM2 := Lib.hid hM2
            have HG2 := Lib.hid hG2
            clear hX1 hM2 hG2
            clear hc hX e0 e1 e2 e3
            by_cases hpk : PV kids[k]
            · have hp := properV_true hpk
              have HCALL := Lib.hid (fun (W' : World) (h' : MLe m W'.cell?) => show Calls Tryz.prog 13 #[.agg #[.int .i64 kd', .string tx', .slice ak' nk ck', .slice a1' n1 c1']] W' (fun e w' => e = .returned (.bool true) ∧ Gr W' w') from by have h9 := IH.out _ m _ _ _ _ _ _ _ _ W' HSk.out HBk.out HKV.out h'; unfold PvPost at h9; rw [hp] at h9; exact h9)
              clear hp
              by_cases hk1 : k = 0
              · subst hk1
                refine wp_region_quiet_grown hmix (by kernel_rfl) ?_
                repeat (go_big_quiet_step ((go_at_call 13; with_reducible exact quiet_gr (v := .bool true) (HCALL.out _ (HM2.out.trans (gr_grow _ _ _).mle)))))
                refine wpQuiet_nil ?_
                intro _ hw'
                obtain ⟨⟨nq, osq⟩, hw''⟩ := hw'
                subst hw''
                clear d0 d1 d2 d3 x0 x2
                go_wp2
                go_roundw
                case rel =>
                  refine ⟨0 + 1, by omega, by go_num, bl_heap (gr_grow _ _ _).below HXX.out, HG2.out.trans (gr_grow _ _ _), ?_, fun j _ h => by omega⟩
                  intro j hj hjk
                  obtain rfl : j = 0 := by omega
                  exact hpk
                case measure => simp [intOf]; omega
              · have hkk : k < ks.length := by omega
                have hkk1 : k - 1 < ks.length := by omega
                obtain ⟨b2, off2, rfl, y1⟩ := HK.out.at hkk
                obtain ⟨b2', off2', e2', y2⟩ := HK.out.at hkk1
                simp only [Option.some.injEq, Addr.mk.injEq, and_true] at e2'
                obtain ⟨rfl, rfl⟩ := e2'
                have z1 := fun n os => (gr_grow W n os).cell (HM2.out _ _ y1)
                have z2 := fun n os => (gr_grow W n os).cell (HM2.out _ _ y2)
                have hk1' : 0 < k := by omega
                clear hk1 y1 y2
                by_cases hls : Op.bytesLess ks[k - 1].toList ks[k].toList = true
                · refine wp_region_quiet_grown hmix (by kernel_rfl) ?_
                  repeat (go_big_quiet_step ((go_at_call 13; with_reducible exact quiet_gr (v := .bool true) (HCALL.out _ (HM2.out.trans (gr_grow _ _ _).mle)))))
                  refine wpQuiet_nil ?_
                  intro _ hw'
                  obtain ⟨⟨nq, osq⟩, hw''⟩ := hw'
                  subst hw''
                  clear d0 d1 d2 d3 x0 x2 z1 z2
                  go_wp2
                  go_roundw
                  case rel =>
                    refine ⟨k + 1, by omega, by go_num, bl_heap (gr_grow _ _ _).below HXX.out, HG2.out.trans (gr_grow _ _ _), ?_, ?_⟩
                    · intro j hj hjk
                      by_cases e : j = k
                      · subst e; exact hpk
                      · exact hI.out.2.2.1 j hj (by omega)
                    · intro j hj hjk
                      by_cases e : j + 1 = k
                      · subst e; exact hls
                      · exact hI.out.2.2.2 j hj (by omega)
                  case measure => simp [intOf]; omega
                · have hls2 : Op.bytesLess ks[k - 1].toList ks[k].toList = false := by simpa using hls
                  refine wp_region_quiet_grown hmix (by kernel_rfl) ?_
                  repeat (go_big_quiet_step ((go_at_call 13; with_reducible exact quiet_gr (v := .bool true) (HCALL.out _ (HM2.out.trans (gr_grow _ _ _).mle)))))
                  refine wpQuiet_nil ?_
                  intro _ hw'
                  obtain ⟨⟨nq, osq⟩, hw''⟩ := hw'
                  subst hw''
                  clear d0 d1 d2 d3 x0 x2 z1 z2
                  go_wp2
                  go_ret
                  exact PvPost.no (fun h => by
                    have g := h.out.2.2.2.2.2.2.1 rfl (k - 1) (by omega)
                    have e : k - 1 + 1 = k := by omega
                    simp only [e] at g
                    exact hls g) (HG2.out.trans (gr_grow _ _ _))
            · have hp := properV_false hpk
              have HCALL := Lib.hid (fun (W' : World) (h' : MLe m W'.cell?) => show Calls Tryz.prog 13 #[.agg #[.int .i64 kd', .string tx', .slice ak' nk ck', .slice a1' n1 c1']] W' (fun e w' => e = .returned (.bool false) ∧ Gr W' w') from by have h9 := IH.out _ m _ _ _ _ _ _ _ _ W' HSk.out HBk.out HKV.out h'; unfold PvPost at h9; rw [hp] at h9; exact h9)
              clear hp
              refine wp_region_quiet_grown hmix (by kernel_rfl) ?_
              repeat (go_big_quiet_step ((go_at_call 13; with_reducible exact quiet_gr (v := .bool false) (HCALL.out _ (HM2.out.trans (gr_grow _ _ _).mle)))))
              refine wpQuiet_nil ?_
              intro _ hw'
              obtain ⟨⟨nq, osq⟩, hw''⟩ := hw'
              subst hw''
              clear d0 d1 d2 d3 x0 x2
              go_wp2
              go_ret
              exact PvPost.no (fun h => hpk (h.out.2.2.2.2.2.2.2 k hlt)) (HG2.out.trans (gr_grow _ _ _))
          · go_wp2
            go_ret
            exact PvPost.yes (.mk (by omega) (.inl htx) (fun e => by omega) (by omega) (fun _ => HK0.out) (fun e => by omega) (fun _ i h => hI.out.2.2.2 i h (by omega)) (fun i h => hI.out.2.2.1 i h (by omega))) hI.out.2.1
    · have HNE := Lib.hid hk0
      have hbb : ((ks.length : Int) != (kids.length : Int)) = true := by rw [bne_iff_ne]; omega
      clear hk0
      by_cases hn0 : kids.length ≤ 0
      · skip
        go_enter Tryz.func13, Tryz.ntmps13
        go_wp2
        go_ret
        exact PvPost.no (fun h => by have g := h.out; exact HNE.out (g.2.2.2.2.1 rfl)) ((Gr.refl _).alloc _)
      · skip
        go_enter Tryz.func13, Tryz.ntmps13
        go_wp2
        go_ret
        exact PvPost.no (fun h => by have g := h.out; exact HNE.out (g.2.2.2.2.1 rfl)) ((Gr.refl _).alloc _)
  · have htb : (!tx.toList.isEmpty) = true := by simp [htx]
    go_enter Tryz.func13, Tryz.ntmps13
    go_wp2
    go_ret
    exact PvPost.no (fun h => by have g := h.out; rcases g.2.1 with h | h | h; exact htx h; omega; omega) ((Gr.refl _).alloc _)

set_option maxHeartbeats 4000000 in
set_option maxRecDepth 100000 in
theorem properValue_any (n : Nat) : ∀ (t : Vl) (m : Mem) (kd : Int) (tx : ByteArray) (ak : Option Addr) (nk ck : Nat) (a1 : Option Addr) (n1 c1 : Nat) (w : World), SizeOf.sizeOf t < n → BdV t → MV m (vlCells kd tx ak nk ck a1 n1 c1) t → MLe m w.cell? →
    Calls Tryz.prog 13 #[.agg #[.int .i64 kd, .string tx, .slice ak nk ck, .slice a1 n1 c1]] w (PvPost t w) := by
  induction n with
  | zero => intro t m kd tx ak nk ck a1 n1 c1 w h; exact absurd h (Nat.not_lt_zero _)
  | succ n ih =>
    intro t m kd tx ak nk ck a1 n1 c1 w hn hb hv hm
    obtain ⟨kd0, tx0, ks, kids⟩ := t
    have IH := Lib.hid ih
    clear ih
    obtain ⟨e1, e2, e3, e4, ⟨lk1, lk2⟩, ⟨l11, l12⟩, rk, r1⟩ := hv.open
    simp only [Vl.kind, Vl.text, Vl.keys, Vl.kids] at e1 e2 e3 e4 rk r1
    subst e1 e2 e3 e4
    have hbt := hb.out.1
    simp only [Vl.text] at hbt
    have HB5 := Lib.hid (show ∀ k ∈ kids, BdV k from hb.out.2.2.2.2)
    have HK := Lib.hid rk
    have H1 := Lib.hid r1
    have HM := Lib.hid hm
    have HN := Lib.hid (show ∀ k ∈ kids, SizeOf.sizeOf k < n from fun k hk => by have := Vl.lt_kid (kd := kd) (tx := tx) (ks := ks) hk; omega)
    clear rk r1 hm hn hv hb
    by_cases hk : 0 ≤ kd ∧ kd ≤ 6
    · have hk7 : kd = 0 ∨ kd = 1 ∨ kd = 2 ∨ kd = 3 ∨ kd = 4 ∨ kd = 5 ∨ kd = 6 := by omega
      rcases hk7 with rfl | rfl | rfl | rfl | rfl | rfl | rfl
      · exact pv_kind0 lk1 lk2 l11 l12 hbt
      · exact pv_kind1 lk1 lk2 l11 l12 hbt
      · exact pv_kind2 lk1 lk2 l11 l12 hbt
      · exact pv_kind3 lk1 lk2 l11 l12 hbt
      · exact pv_kind4 lk1 lk2 l11 l12 hbt
      · exact pv_kind5 lk1 lk2 l11 l12 hbt IH HK H1 HM HB5 HN
      · exact pv_kind6 lk1 lk2 l11 l12 hbt IH HK H1 HM HB5 HN
    · have hP : ¬ PV (.mk kd tx ks kids) := fun h => hk h.out.1
      by_cases h0 : kd < 0
      · go_enter Tryz.func13, Tryz.ntmps13
        go_wp2
        go_ret
        exact PvPost.no hP ((Gr.refl _).alloc _)
      · have h6 : 6 < kd := by omega
        have b0 : decide (kd < 0) = false := by simp; omega
        have b6 : decide (6 < kd) = true := by simp; omega
        clear h0 hk
        go_enter Tryz.func13, Tryz.ntmps13
        go_wp2
        go_ret
        exact PvPost.no hP ((Gr.refl _).alloc _)
end Go.Proofs.YtaglgokeejjagaaGreat
