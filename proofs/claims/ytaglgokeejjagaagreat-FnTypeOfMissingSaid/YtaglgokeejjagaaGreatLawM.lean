/- The walk of the law FnTypeOfMissing. -/
import Derived.Test.YtaglgokeejjagaaGreatLawT
import Derived.Test.YtaglgokeejjagaaGreatR9
namespace Go.Proofs.YtaglgokeejjagaaGreat
set_option linter.unusedVariables false
set_option linter.unusedSimpArgs false
open Go.RowKit Go.Sort Go.Proofs.YtaglgokeejjagaaGreatW.PrintLast

theorem set4 (w : World) (pb : Nat) (u0 u1 u2 u3 : Value) : w.grownBy ((((w.setCell ⟨pb, 0, none⟩ u0).setCell ⟨pb, 1, none⟩ u1).setCell ⟨pb, 2, none⟩ u2).setCell ⟨pb, 3, none⟩ u3) (some pb) :=
  ⟨rfl, rfl, rfl, by simp, fun k _ hk => by
    have hk' : k ≠ pb := fun e => hk (by rw [e])
    rw [Below.heap_setCell _ _ _ k hk', Below.heap_setCell _ _ _ k hk', Below.heap_setCell _ _ _ k hk', Below.heap_setCell _ _ _ k hk']⟩
theorem in_no (t : ST) (v : Vl) (m : Mem) {kv : Int} {tx : ByteArray} {akv : Option Addr} {nkv ckv : Nat} {a1v : Option Addr} {n1v c1v : Nat} {kd : Int} {ak : Option Addr} {nk ck : Nat} {a1 : Option Addr} {n1 c1 : Nat} {a2 : Option Addr} {n2 c2 : Nat} {w : World}
    (h : ¬ InP t v) (h1 : Wt t) (h2 : Wv v) (h3 : MV m (vlCells kv tx akv nkv ckv a1v n1v c1v) v) (h4 : MST m (stCells kd ak nk ck a1 n1 c1 a2 n2 c2) t) (h5 : MLe m w.cell?) :
    Calls Tryz.prog 15 #[.agg #[.int .i64 kv, .string tx, .slice akv nkv ckv, .slice a1v n1v c1v], .agg #[.int .i64 kd, .slice ak nk ck, .slice a1 n1 c1, .slice a2 n2 c2]] w (PvB false w) :=
  (in_any t v m _ _ _ _ _ _ _ _ _ _ _ _ _ _ _ _ _ _ w h1 h2 h3 h4 h5).mono fun e w' h9 => ⟨by rw [h9.1, inT_false h], h9.2⟩
theorem dropAt_ge {α : Type} {l : List α} {n i : Nat} (hn : n < l.length) (h : i < (dropAt l n).length) (hi : ¬ i < n) : ∃ (h2 : i + 1 < l.length), (dropAt l n)[i] = l[i + 1] := by
  have hl := dropAt_len hn
  have h2 : i + 1 < l.length := by omega
  refine ⟨h2, ?_⟩
  have e : (dropAt l n)[i]? = l[i + 1]? := by
    unfold dropAt
    rw [List.getElem?_append_right (by simp; omega), List.getElem?_drop]
    congr 1
    simp; omega
  rw [List.getElem?_eq_getElem h, List.getElem?_eq_getElem h2] at e
  exact Option.some.inj e
theorem one_str (l : List ByteArray) : ∀ u ∈ strV l, u.oneCell' = true := by
  intro u hu
  obtain ⟨s, _, rfl⟩ := List.mem_map.1 hu
  rfl
theorem slice_of {w : World} {B e sz n : Nat} {v : Value} {xs : List Value} (h : w.ownsRow B e sz v n xs) : ∃ p q r, v = .slice p q r := by
  rcases h.2 with ⟨rfl, _⟩ | ⟨g, cap, cur, rfl, _⟩ <;> exact ⟨_, _, _, rfl⟩
theorem flat_len : ∀ {l : List (List Value)}, (∀ c ∈ l, c.length = 4) → l.flatten.length = l.length * 4
  | [], _ => rfl
  | c :: l, h => by
    rw [List.flatten_cons, List.length_append, flat_len (fun c hc => h c (List.mem_cons_of_mem _ hc)), h c List.mem_cons_self, List.length_cons]; omega
theorem kc_of {m : Mem} {b off : Nat} {ts : List Vl} (h : RowV m (some ⟨b, off, none⟩) ts) : ∃ kc : List (List Value), kc.length = ts.length ∧ (∀ c ∈ kc, c.length = 4) ∧ (∀ c ∈ kc, ∀ u ∈ c, u.oneCell' = true) ∧
    (∀ i (hi : i < kc.length) j u, kc[i][j]? = some u → m ⟨b, off + i * 4 + j, none⟩ = some u) ∧ ∀ i (h1 : i < kc.length) (h2 : i < ts.length), MV m kc[i] ts[i] := by
  obtain ⟨f, hr, hm⟩ := h
  have hsh : ∀ i (h : i < ts.length), (f i).length = 4 ∧ ∀ u ∈ f i, u.oneCell' = true := fun i h => by
    obtain ⟨kd, tx, ak, nk, ck, a1, n1, c1, e⟩ := (hm i h).shape
    rw [e]; exact ⟨rfl, by simp [vlCells, Value.oneCell']⟩
  refine ⟨(List.range ts.length).map f, by simp, fun c hc => ?_, fun c hc => ?_, fun i hi j u hu => ?_, fun i h1 h2 => ?_⟩
  · obtain ⟨i, hi, rfl⟩ := List.mem_map.1 hc; exact (hsh i (List.mem_range.1 hi)).1
  · obtain ⟨i, hi, rfl⟩ := List.mem_map.1 hc; exact (hsh i (List.mem_range.1 hi)).2
  · have hi' : i < ts.length := by simpa using hi
    obtain ⟨b', off', e, hc⟩ := hr (by omega)
    cases e
    simp only [List.getElem_map, List.getElem_range] at hu
    exact hc i hi' j u hu
  · simp only [List.getElem_map, List.getElem_range]; exact hm i h2

set_option maxHeartbeats 4000000 in
set_option maxRecDepth 100000 in
theorem law_missing {t : Vl} {m : Mem} {tx : ByteArray} {ak : Option Addr} {nk ck : Nat} {a1 : Option Addr} {n1 c1 : Nat} {w : World} {n : Nat} (hb : BdV t) (hv : MV m (vlCells 6 tx ak nk ck a1 n1 c1) t) (hm : MLe m w.cell?) (hp : PV (valOf t)) (hn : n < t.keys.length) :
    Calls Tryz.prog 8 #[.agg #[.int .i64 6, .string tx, .slice ak nk ck, .slice a1 n1 c1], .int .i64 n] w (LawP w) := by
  have HV := Lib.hid hv
  have HM := Lib.hid hm
  have HB := Lib.hid hb
  have HF := Lib.hid (fun (W : World) (h : MLe m W.cell?) => show Calls Tryz.prog 11 #[.agg #[.int .i64 6, .string tx, .slice ak nk ck, .slice a1 n1 c1]] W (SomeB W) from by
    obtain ⟨e, rfl, rfl, rfl, lk, l1, rk, r1⟩ := hv.open
    exact zzFits4_any lk rk h hb.out.2.2.1 hb.out.1 l1.1 l1.2)
  have HPV := Lib.hid (fun (W : World) (m' : Mem) (kd' tx' ak' nk' ck' a1' n1' c1') (h1 : MV m' (vlCells kd' tx' ak' nk' ck' a1' n1' c1') (valOf t)) (h2 : MLe m' W.cell?) => show Calls Tryz.prog 13 #[.agg #[.int .i64 kd', .string tx', .slice ak' nk' ck', .slice a1' n1' c1']] W (PvB true W) from
    (properValue_any (SizeOf.sizeOf (valOf t) + 1) (valOf t) m' _ _ _ _ _ _ _ _ W (Nat.lt_succ_self _) (bd_val HB.out) h1 h2).mono fun e w' h => ⟨by rw [h.1, properV_true hp], h.2⟩)
  obtain ⟨ev, hw5, hpt⟩ := val_proper hp
  obtain ⟨ek, rfl, rfl, rfl, ⟨lk1, lk2⟩, ⟨l11, l12⟩, rk, r1⟩ := hv.open
  have EV := Lib.hid ev
  have HW5 := Lib.hid hw5
  have HPT := Lib.hid hpt
  have EK := Lib.hid ek
  have HWS := Lib.hid (Nat.le_trans (WS_tyOf t) hw5)
  have HEQ := Lib.hid (hpt.len ek.symm)
  have HK5 := Lib.hid (Nat.le_trans (WV_keys t) hw5)
  have hn2 : n < t.kids.length := by have := hpt.len ek.symm; omega
  obtain ⟨kb, ko, rfl, _⟩ := rk.at hn
  obtain ⟨qb, qo, _, _, _, _, _, _, _, _, rfl, _⟩ := r1.at hn2
  have HRK := Lib.hid rk
  have HR1 := Lib.hid r1
  have hn3 : n < 9223372036854775807 := by have := Nat.le_trans (WV_keys t) hw5; omega
  have dn : decide ((t.keys.length : Int) ≤ (n : Int)) = false := by simp; omega
  have dn2 : decide (t.keys.length ≤ n) = false := by simp; omega
  clear hv hm hb ev hw5 hpt hp ek rk r1
  go_enter Tryz.func8, Tryz.ntmps8
  go_wp2_with (first | (go_at_call 11; refine (HF.out _ (mle_alloc HM.out _)).mono ?_; rintro e w1 ⟨b, rfl, hg⟩; have HX := Lib.hid (bl_heap hg.below (al_new rfl)); have HG := Lib.hid hg; obtain ⟨x0, x1, x2, x3⟩ := cells4 HX.out; cases b <;> clear hg) | (go_at_call 14; refine (value_any t m _ _ _ _ _ _ _ _ _ HB.out HV.out ((mle_alloc HM.out _).trans HG.out.mle)).mono ?_; rintro e w2 ⟨kd', tx', ak', nk', ck', a1', n1', c1', rfl, hmv, hbl⟩; have HMV := Lib.hid hmv; have HBL := Lib.hid hbl; have HX2 := Lib.hid (bl_heap hbl HX.out); clear hmv hbl) | (go_at_call 13; refine (HPV.out _ _ _ _ _ _ _ _ _ _ HMV.out (fr_le ((mle_alloc HM.out _).trans (HG.out.mle.trans (mle_below HBL.out))))).mono ?_; rintro e w3 ⟨rfl, hg3⟩; have HG3 := Lib.hid hg3; have HX3 := Lib.hid (bl_heap hg3.below HX2.out); clear x0 x1 x2 x3; obtain ⟨y0, y1, y2, y3⟩ := cells4 HX3.out; clear hg3))
  · go_ret
    exact ⟨rfl, bl_trans (bl_alloc (Below.refl _ _) _) HG.out.below⟩
  · have HM3 := Lib.hid ((mle_alloc HM.out (.cells #[.int .i64 6, .string t.text, .slice (some ⟨kb, ko, none⟩) t.keys.length ck, .slice (some ⟨qb, qo, none⟩) t.kids.length c1] 29)).trans (HG.out.mle.trans ((mle_below HBL.out).trans HG3.out.mle)))
    have HB3 := Lib.hid (bl_trans (bl_trans (bl_trans (bl_alloc (Below.refl _ _) (.cells #[.int .i64 6, .string t.text, .slice (some ⟨kb, ko, none⟩) t.keys.length ck, .slice (some ⟨qb, qo, none⟩) t.kids.length c1] 29)) HG.out.below) HBL.out) HG3.out.below)
    have HSZ := Lib.hid (lt_blk HX3.out)
    clear y0 y1 y2 y3
    have hnck : n ≤ ck := by omega
    have hnc1 : n ≤ c1 := by omega
    have hw1 : wrap64 ((n : Int) + 1) = (n : Int) + 1 := w64 (by omega)
    have htn : ((n : Int) + 1).toNat = n + 1 := by omega
    have hle1 : (n : Int) + 1 ≤ (t.keys.length : Int) := by omega
    have hle2 : (n : Int) + 1 ≤ (t.kids.length : Int) := by omega
    have hge0 : (0 : Int) ≤ (n : Int) + 1 := by omega
    obtain ⟨ko', hko, hko2⟩ : ∃ ko', (if ck = n + 1 then some (⟨kb, ko, none⟩ : Addr) else some ⟨kb, ko + (n + 1), none⟩) = some ⟨kb, ko', none⟩ ∧ (n + 1 < t.keys.length → ko' = ko + (n + 1)) := by
      by_cases h : ck = n + 1
      · exact ⟨ko, by rw [if_pos h], fun h2 => by omega⟩
      · exact ⟨ko + (n + 1), by rw [if_neg h], fun _ => rfl⟩
    obtain ⟨qo', hqo, hqo2⟩ : ∃ qo', (if c1 = n + 1 then some (⟨qb, qo, none⟩ : Addr) else some ⟨qb, qo + (n + 1) * 4, none⟩) = some ⟨qb, qo', none⟩ ∧ (n + 1 < t.kids.length → qo' = qo + (n + 1) * 4) := by
      by_cases h : c1 = n + 1
      · exact ⟨qo, by rw [if_pos h], fun h2 => by omega⟩
      · exact ⟨qo + (n + 1) * 4, by rw [if_neg h], fun _ => rfl⟩
    obtain ⟨kc, hkcl, hk4, hk1, hkr, hkm⟩ := kc_of HR1.out
    have HKCL := Lib.hid hkcl
    have HKM := Lib.hid hkm
    have HK4 := Lib.hid hk4
    have HF4 := Lib.hid (show (kc.take n).flatten.length = n * 4 ∧ (kc.drop (n + 1)).flatten.length = (t.kids.length - (n + 1)) * 4 from
      ⟨by rw [flat_len (fun c hc => hk4 c (List.mem_of_mem_take hc)), List.length_take, hkcl, Nat.min_eq_left (by omega)], by rw [flat_len (fun c hc => hk4 c (List.mem_of_mem_drop hc)), List.length_drop, hkcl]⟩)
    have HFL := Lib.hid (show (kc.take n).length = n ∧ (kc.drop (n + 1)).length = t.kids.length - (n + 1) from ⟨by rw [List.length_take, hkcl, Nat.min_eq_left (by omega)], by rw [List.length_drop, hkcl]⟩)
    have HO1 := Lib.hid (show (∀ u ∈ (kc.take n).flatten, u.oneCell' = true) ∧ (∀ u ∈ (kc.drop (n + 1)).flatten, u.oneCell' = true) from
      ⟨fun u hu => by obtain ⟨c, hc, hu⟩ := List.mem_flatten.1 hu; exact hk1 c (List.mem_of_mem_take hc) u hu, fun u hu => by obtain ⟨c, hc, hu⟩ := List.mem_flatten.1 hu; exact hk1 c (List.mem_of_mem_drop hc) u hu⟩)
    have hkeys : ∀ i (hi : i < t.keys.length), m ⟨kb, ko + i, none⟩ = some (.string t.keys[i]) := fun i hi => by
      obtain ⟨b', o', e, h⟩ := HRK.out.at hi
      cases e; exact h
    have HKC := Lib.hid (show (∀ j u, (strV (t.keys.take n))[j]? = some u → m ((⟨kb, ko, none⟩ : Addr).add j) = some u) ∧ (∀ j u, (strV (t.keys.drop (n + 1)))[j]? = some u → m ((⟨kb, ko', none⟩ : Addr).add j) = some u) from
      ⟨fun j u hu => by
        rw [add_at0]
        have := keys_cells hkeys 0 (t.keys.take n) (fun i hi => ⟨by simp at hi; omega, by simp⟩) j u hu
        simpa using this, fun j u hu => by
        rw [add_at0]
        have hj : j < (t.keys.drop (n + 1)).length := by have := (List.getElem?_eq_some_iff.1 hu).1; simpa [strV] using this
        rw [hko2 (by simp at hj; omega)]
        exact keys_cells hkeys (n + 1) (t.keys.drop (n + 1)) (fun i hi => ⟨by simp at hi; omega, by simp⟩) j u hu⟩)
    have HLC := Lib.hid (show (∀ j u, (kc.take n).flatten[j]? = some u → m ((⟨qb, qo, none⟩ : Addr).add j) = some u) ∧ (∀ j u, (kc.drop (n + 1)).flatten[j]? = some u → m ((⟨qb, qo', none⟩ : Addr).add j) = some u) from
      ⟨fun j u hu => by
        rw [add_at0]
        have := kids_cells hk4 hkr 0 (kc.take n) (fun i hi => ⟨by simp at hi; omega, by simp⟩) j u hu
        simpa using this, fun j u hu => by
        rw [add_at0]
        have hj : 0 < (kc.drop (n + 1)).flatten.length := by have := (List.getElem?_eq_some_iff.1 hu).1; omega
        rw [HF4.out.2] at hj
        rw [hqo2 (by omega)]
        exact kids_cells hk4 hkr (n + 1) (kc.drop (n + 1)) (fun i hi => ⟨by simp at hi; omega, by simp⟩) j u hu⟩)
    clear hkcl hk4 hk1 hkr hkm hkeys
    have HKO2 := Lib.hid hko2
    have HQO2 := Lib.hid hqo2
    clear hko2 hqo2
    have h8_st := Lib.hid (R8.start (Nat.le_refl w3.heap.size) (.pointer none))
    refine start_ (n := 27) (S := fun w' => w'.cell? ⟨w.heap.size, 2, none⟩ = some (.slice (some ⟨kb, ko, none⟩) t.keys.length ck) ∧ w'.cell? ⟨w.heap.size, 3, none⟩ = some (.slice (some ⟨qb, qo, none⟩) t.kids.length c1)) (ds := [26]) #[false, false, false, false, false, false, false, false, false, false, false, false, false, false, false, false, false, false, false, false, false, false, false, false, false, false, false] (by kernel_rfl) rfl rfl ⟨cell_blk HX3.out 2 rfl, cell_blk HX3.out 3 rfl⟩ (fun hHeld => ?_)
    refine pure_ (i := 1) (N := some 31) (v := ?_) (a' := ?_) #[false, true, false, false, false, false, false, false, false, false, false, false, false, false, false, false, false, false, false, false, false, false, false, false, false, false, false] rfl rfl (by kernel_rfl) (fun _ _ _ h => h) (Or.inl ⟨by rfl, ?_⟩) ?_ ?_
    rotate_left
    · intro w'
      go_simp
      with_reducible rfl
    rotate_left
    · simp only [Act.put, List.setIfInBounds_toArray, List.set_cons_zero, List.set_cons_succ, i64_w, i32_w]
      rfl
    refine pure_ (i := 3) (N := some 33) (v := ?_) (a' := ?_) #[false, true, false, true, false, false, false, false, false, false, false, false, false, false, false, false, false, false, false, false, false, false, false, false, false, false, false] rfl rfl (by kernel_rfl) (fun _ _ _ h => h) (Or.inl ⟨by rfl, ?_⟩) ?_ ?_
    rotate_left
    · intro w'
      go_simp
      with_reducible rfl
    rotate_left
    · simp only [Act.put, List.setIfInBounds_toArray, List.set_cons_zero, List.set_cons_succ, i64_w, i32_w]
      rfl
    refine pure_ (i := 6) (N := some 36) (v := ?_) (a' := ?_) #[false, true, false, true, false, false, true, false, false, false, false, false, false, false, false, false, false, false, false, false, false, false, false, false, false, false, false] rfl rfl (by kernel_rfl) (fun _ _ _ h => h) (Or.inl ⟨by rfl, ?_⟩) ?_ ?_
    rotate_left
    · intro w'
      go_simp
      with_reducible rfl
    rotate_left
    · simp only [Act.put, List.setIfInBounds_toArray, List.set_cons_zero, List.set_cons_succ, i64_w, i32_w]
      rfl
    refine pure_ (i := 8) (N := some 38) (v := ?_) (a' := ?_) #[false, true, false, true, false, false, true, false, true, false, false, false, false, false, false, false, false, false, false, false, false, false, false, false, false, false, false] rfl rfl (by kernel_rfl) (fun _ _ _ h => h) (Or.inl ⟨by rfl, ?_⟩) ?_ ?_
    rotate_left
    · intro w'
      go_simp
      with_reducible rfl
    rotate_left
    · simp only [Act.put, List.setIfInBounds_toArray, List.set_cons_zero, List.set_cons_succ, i64_w, i32_w]
      rfl
    refine pure_ (i := 9) (N := some 39) (v := ?_) (a' := ?_) #[false, true, false, true, false, false, true, false, true, true, false, false, false, false, false, false, false, false, false, false, false, false, false, false, false, false, false] rfl rfl (by kernel_rfl) (fun _ _ _ h => h) (Or.inl ⟨by rfl, ?_⟩) ?_ ?_
    rotate_left
    · intro w'
      go_simp
      with_reducible rfl
    rotate_left
    · simp only [Act.put, List.setIfInBounds_toArray, List.set_cons_zero, List.set_cons_succ, i64_w, i32_w]
      rfl
    refine pure_ (i := 13) (N := some 43) (v := ?_) (a' := ?_) #[false, true, false, true, false, false, true, false, true, true, false, false, false, true, false, false, false, false, false, false, false, false, false, false, false, false, false] rfl rfl (by kernel_rfl) (fun _ _ _ h => h) (Or.inl ⟨by rfl, ?_⟩) ?_ ?_
    rotate_left
    · intro w'
      go_simp
      with_reducible rfl
    rotate_left
    · simp only [Act.put, List.setIfInBounds_toArray, List.set_cons_zero, List.set_cons_succ, i64_w, i32_w]
      rfl
    refine pure_ (i := 15) (N := some 45) (v := ?_) (a' := ?_) #[false, true, false, true, false, false, true, false, true, true, false, false, false, true, false, true, false, false, false, false, false, false, false, false, false, false, false] rfl rfl (by kernel_rfl) (fun _ _ _ h => h) (Or.inl ⟨by rfl, ?_⟩) ?_ ?_
    rotate_left
    · intro w'
      go_simp
      with_reducible rfl
    rotate_left
    · simp only [Act.put, List.setIfInBounds_toArray, List.set_cons_zero, List.set_cons_succ, i64_w, i32_w]
      rfl
    refine pure_ (i := 18) (N := some 48) (v := ?_) (a' := ?_) #[false, true, false, true, false, false, true, false, true, true, false, false, false, true, false, true, false, false, true, false, false, false, false, false, false, false, false] rfl rfl (by kernel_rfl) (fun _ _ _ h => h) (Or.inl ⟨by rfl, ?_⟩) ?_ ?_
    rotate_left
    · intro w'
      go_simp
      with_reducible rfl
    rotate_left
    · simp only [Act.put, List.setIfInBounds_toArray, List.set_cons_zero, List.set_cons_succ, i64_w, i32_w]
      rfl
    refine pure_ (i := 20) (N := some 50) (v := ?_) (a' := ?_) #[false, true, false, true, false, false, true, false, true, true, false, false, false, true, false, true, false, false, true, false, true, false, false, false, false, false, false] rfl rfl (by kernel_rfl) (fun _ _ _ h => h) (Or.inl ⟨by rfl, ?_⟩) ?_ ?_
    rotate_left
    · intro w'
      go_simp
      with_reducible rfl
    rotate_left
    · simp only [Act.put, List.setIfInBounds_toArray, List.set_cons_zero, List.set_cons_succ, i64_w, i32_w]
      rfl
    refine pure_ (i := 21) (N := some 51) (v := ?_) (a' := ?_) #[false, true, false, true, false, false, true, false, true, true, false, false, false, true, false, true, false, false, true, false, true, true, false, false, false, false, false] rfl rfl (by kernel_rfl) (fun _ _ _ h => h) (Or.inl ⟨by rfl, ?_⟩) ?_ ?_
    rotate_left
    · intro w'
      go_simp
      with_reducible rfl
    rotate_left
    · simp only [Act.put, List.setIfInBounds_toArray, List.set_cons_zero, List.set_cons_succ, i64_w, i32_w]
      rfl
    refine take_ (i := 2) (N := some 32) (v := ?_) (a' := ?_) #[false, true, true, true, false, false, true, false, true, true, false, false, false, true, false, true, false, false, true, false, true, true, false, false, false, false, false] rfl rfl (by kernel_rfl) (fun _ _ _ h => h) (Or.inl ⟨by rfl, ?_⟩) hHeld ?_ ?_
    rotate_left
    · rintro w' ⟨s0, s1⟩
      go_simp
      with_reducible rfl
    rotate_left
    · simp only [Act.put, List.setIfInBounds_toArray, List.set_cons_zero, List.set_cons_succ, i64_w, i32_w]
      rfl
    refine pure_ (i := 4) (N := some 34) (v := ?_) (a' := ?_) #[false, true, true, true, true, false, true, false, true, true, false, false, false, true, false, true, false, false, true, false, true, true, false, false, false, false, false] rfl rfl (by kernel_rfl) (fun _ _ _ h => h) (Or.inl ⟨by rfl, ?_⟩) ?_ ?_
    rotate_left
    · intro w'
      go_simp
      with_reducible rfl
    rotate_left
    · simp only [Act.put, List.setIfInBounds_toArray, List.set_cons_zero, List.set_cons_succ, i64_w, i32_w]
      rfl
    refine take_ (i := 7) (N := some 37) (v := ?_) (a' := ?_) #[false, true, true, true, true, false, true, true, true, true, false, false, false, true, false, true, false, false, true, false, true, true, false, false, false, false, false] rfl rfl (by kernel_rfl) (fun _ _ _ h => h) (Or.inl ⟨by rfl, ?_⟩) hHeld ?_ ?_
    rotate_left
    · rintro w' ⟨s0, s1⟩
      go_simp
      with_reducible rfl
    rotate_left
    · simp only [Act.put, List.setIfInBounds_toArray, List.set_cons_zero, List.set_cons_succ, i64_w, i32_w]
      rfl
    refine pure_ (i := 10) (N := some 40) (v := ?_) (a' := ?_) #[false, true, true, true, true, false, true, true, true, true, true, false, false, true, false, true, false, false, true, false, true, true, false, false, false, false, false] rfl rfl (by kernel_rfl) (fun _ _ _ h => h) (Or.inl ⟨by rfl, ?_⟩) ?_ ?_
    rotate_left
    · intro w'
      go_simp
      with_reducible rfl
    rotate_left
    · simp only [Act.put, List.setIfInBounds_toArray, List.set_cons_zero, List.set_cons_succ, i64_w, i32_w]
      rfl
    refine take_ (i := 14) (N := some 44) (v := ?_) (a' := ?_) #[false, true, true, true, true, false, true, true, true, true, true, false, false, true, true, true, false, false, true, false, true, true, false, false, false, false, false] rfl rfl (by kernel_rfl) (fun _ _ _ h => h) (Or.inl ⟨by rfl, ?_⟩) hHeld ?_ ?_
    rotate_left
    · rintro w' ⟨s0, s1⟩
      go_simp
      with_reducible rfl
    rotate_left
    · simp only [Act.put, List.setIfInBounds_toArray, List.set_cons_zero, List.set_cons_succ, i64_w, i32_w]
      rfl
    refine pure_ (i := 16) (N := some 46) (v := ?_) (a' := ?_) #[false, true, true, true, true, false, true, true, true, true, true, false, false, true, true, true, true, false, true, false, true, true, false, false, false, false, false] rfl rfl (by kernel_rfl) (fun _ _ _ h => h) (Or.inl ⟨by rfl, ?_⟩) ?_ ?_
    rotate_left
    · intro w'
      go_simp
      with_reducible rfl
    rotate_left
    · simp only [Act.put, List.setIfInBounds_toArray, List.set_cons_zero, List.set_cons_succ, i64_w, i32_w]
      rfl
    refine take_ (i := 19) (N := some 49) (v := ?_) (a' := ?_) #[false, true, true, true, true, false, true, true, true, true, true, false, false, true, true, true, true, false, true, true, true, true, false, false, false, false, false] rfl rfl (by kernel_rfl) (fun _ _ _ h => h) (Or.inl ⟨by rfl, ?_⟩) hHeld ?_ ?_
    rotate_left
    · rintro w' ⟨s0, s1⟩
      go_simp
      with_reducible rfl
    rotate_left
    · simp only [Act.put, List.setIfInBounds_toArray, List.set_cons_zero, List.set_cons_succ, i64_w, i32_w]
      rfl
    refine pure_ (i := 22) (N := some 52) (v := ?_) (a' := ?_) #[false, true, true, true, true, false, true, true, true, true, true, false, false, true, true, true, true, false, true, true, true, true, true, false, false, false, false] rfl rfl (by kernel_rfl) (fun _ _ _ h => h) (Or.inl ⟨by rfl, ?_⟩) ?_ ?_
    rotate_left
    · intro w'
      go_simp
      with_reducible rfl
    rotate_left
    · simp only [Act.put, List.setIfInBounds_toArray, List.set_cons_zero, List.set_cons_succ, i64_w, i32_w]
      rfl
    refine join_ (σ := Value × Value × Value × Value × Value × Value × Value) 1 #[true, true, true, true, true, true, true, true, true, true, true, true, true, true, true, true, true, true, true, true, true, true, true, true, true, true, false] (fun s_ => [(30, s_.1), (35, s_.2.1), (41, s_.2.2.1), (42, s_.2.2.2.1), (47, s_.2.2.2.2.1), (53, s_.2.2.2.2.2.1), (5, s_.2.2.2.2.2.2), (54, .agg #[.int .i64 6, .string ⟨#[]⟩, s_.2.2.1, s_.2.2.2.2.2.1])]) (fun s_ w' => ((∃ p q r, s_.1 = .slice p q r) ∧ (∃ p q r, s_.2.1 = .slice p q r) ∧ (∃ p q r, s_.2.2.1 = .slice p q r) ∧ (∃ p q r, s_.2.2.2.1 = .slice p q r) ∧ (∃ p q r, s_.2.2.2.2.1 = .slice p q r) ∧ (∃ p q r, s_.2.2.2.2.2.1 = .slice p q r)) ∧ R8 w3.heap.size w3 (dropAt t.keys n) (dropAt kc n) (s_.2.2.1) (s_.2.2.2.2.2.1) (s_.2.2.2.2.2.2) true w') ?_ ?_
    rotate_left
    · intro hJ0_5_11_12_17_23_25
      refine join_ (σ := Value × Value × Value × Value × Value × Value) 2 #[true, true, true, true, true, true, true, true, true, true, true, true, true, true, true, true, true, true, true, true, true, true, true, true, true, false, false] (fun s_ => [(30, s_.1), (35, s_.2.1), (41, s_.2.2.1), (42, s_.2.2.2.1), (47, s_.2.2.2.2.1), (53, s_.2.2.2.2.2), (54, .agg #[.int .i64 6, .string ⟨#[]⟩, s_.2.2.1, s_.2.2.2.2.2])]) (fun s_ w' => ((∃ p q r, s_.1 = .slice p q r) ∧ (∃ p q r, s_.2.1 = .slice p q r) ∧ (∃ p q r, s_.2.2.1 = .slice p q r) ∧ (∃ p q r, s_.2.2.2.1 = .slice p q r) ∧ (∃ p q r, s_.2.2.2.2.1 = .slice p q r) ∧ (∃ p q r, s_.2.2.2.2.2 = .slice p q r)) ∧ R8 w3.heap.size w3 (dropAt t.keys n) (dropAt kc n) (s_.2.2.1) (s_.2.2.2.2.2) (.pointer none) false w') ?_ ?_
      rotate_left
      · intro hJ0_5_11_12_17_23
        refine join_ (σ := Value × Value × Value × Value × Value × Value) 3 #[true, true, true, true, true, true, true, true, true, true, true, true, true, true, true, true, true, true, true, true, true, true, true, false, false, true, false] (fun s_ => [(30, s_.1), (35, s_.2.1), (41, s_.2.2.1), (42, s_.2.2.2.1), (47, s_.2.2.2.2.1), (5, s_.2.2.2.2.2)]) (fun s_ w' => ((∃ p q r, s_.1 = .slice p q r) ∧ (∃ p q r, s_.2.1 = .slice p q r) ∧ (∃ p q r, s_.2.2.1 = .slice p q r) ∧ (∃ p q r, s_.2.2.2.1 = .slice p q r) ∧ (∃ p q r, s_.2.2.2.2.1 = .slice p q r)) ∧ R8 w3.heap.size w3 (dropAt t.keys n) (kc.take n) (s_.2.2.1) (s_.2.2.2.2.1) (s_.2.2.2.2.2) true w') ?_ ?_
        rotate_left
        · intro hJ0_5_11_12_17_25
          refine join_ (σ := Value × Value × Value × Value × Value) 4 #[true, true, true, true, true, true, true, true, true, true, true, true, true, true, true, true, true, true, true, true, true, true, true, false, false, false, false] (fun s_ => [(30, s_.1), (35, s_.2.1), (41, s_.2.2.1), (42, s_.2.2.2.1), (47, s_.2.2.2.2)]) (fun s_ w' => ((∃ p q r, s_.1 = .slice p q r) ∧ (∃ p q r, s_.2.1 = .slice p q r) ∧ (∃ p q r, s_.2.2.1 = .slice p q r) ∧ (∃ p q r, s_.2.2.2.1 = .slice p q r) ∧ (∃ p q r, s_.2.2.2.2 = .slice p q r)) ∧ R8 w3.heap.size w3 (dropAt t.keys n) (kc.take n) (s_.2.2.1) (s_.2.2.2.2) (.pointer none) false w') ?_ ?_
          rotate_left
          · intro hJ0_5_11_12_17
            refine join_ (σ := Value × Value × Value × Value × Value) 4 #[true, true, true, true, true, true, true, true, true, true, true, true, true, true, true, true, true, false, true, true, true, true, true, false, false, true, false] (fun s_ => [(30, s_.1), (35, s_.2.1), (41, s_.2.2.1), (42, s_.2.2.2.1), (5, s_.2.2.2.2)]) (fun s_ w' => ((∃ p q r, s_.1 = .slice p q r) ∧ (∃ p q r, s_.2.1 = .slice p q r) ∧ (∃ p q r, s_.2.2.1 = .slice p q r) ∧ (∃ p q r, s_.2.2.2.1 = .slice p q r)) ∧ R8 w3.heap.size w3 (dropAt t.keys n) ([]) (s_.2.2.1) (s_.2.2.2.1) (s_.2.2.2.2) true w') ?_ ?_
            rotate_left
            · intro hJ0_5_11_12_25
              refine join_ (σ := Value × Value × Value × Value) 5 #[true, true, true, true, true, true, true, true, true, true, true, true, true, true, true, true, true, false, true, true, true, true, true, false, false, false, false] (fun s_ => [(30, s_.1), (35, s_.2.1), (41, s_.2.2.1), (42, s_.2.2.2)]) (fun s_ w' => ((∃ p q r, s_.1 = .slice p q r) ∧ (∃ p q r, s_.2.1 = .slice p q r) ∧ (∃ p q r, s_.2.2.1 = .slice p q r) ∧ (∃ p q r, s_.2.2.2 = .slice p q r)) ∧ R8 w3.heap.size w3 (dropAt t.keys n) ([]) (s_.2.2.1) (s_.2.2.2) (.pointer none) false w') ?_ ?_
              rotate_left
              · intro hJ0_5_11_12
                refine join_ (σ := Value × Value × Value × Value) 5 #[true, true, true, true, true, true, true, true, true, true, true, true, false, true, true, true, true, false, true, true, true, true, true, false, false, true, false] (fun s_ => [(30, s_.1), (35, s_.2.1), (41, s_.2.2.1), (5, s_.2.2.2)]) (fun s_ w' => ((∃ p q r, s_.1 = .slice p q r) ∧ (∃ p q r, s_.2.1 = .slice p q r) ∧ (∃ p q r, s_.2.2.1 = .slice p q r)) ∧ R8 w3.heap.size w3 (dropAt t.keys n) ([]) (s_.2.2.1) (.slice none 0 0) (s_.2.2.2) true w') ?_ ?_
                rotate_left
                · intro hJ0_5_11_25
                  refine join_ (σ := Value × Value × Value × Value) 5 #[true, true, true, true, true, true, true, true, true, true, true, false, true, true, true, true, true, false, true, true, true, true, true, false, false, true, false] (fun s_ => [(30, s_.1), (35, s_.2.1), (42, s_.2.2.1), (5, s_.2.2.2)]) (fun s_ w' => ((∃ p q r, s_.1 = .slice p q r) ∧ (∃ p q r, s_.2.1 = .slice p q r) ∧ (∃ p q r, s_.2.2.1 = .slice p q r)) ∧ R8 w3.heap.size w3 (t.keys.take n) ([]) (s_.2.1) (s_.2.2.1) (s_.2.2.2) true w') ?_ ?_
                  rotate_left
                  · intro hJ0_5_12_25
                    refine join_ (σ := Value × Value × Value) 6 #[true, true, true, true, true, true, true, true, true, true, true, true, false, true, true, true, true, false, true, true, true, true, true, false, false, false, false] (fun s_ => [(30, s_.1), (35, s_.2.1), (41, s_.2.2)]) (fun s_ w' => ((∃ p q r, s_.1 = .slice p q r) ∧ (∃ p q r, s_.2.1 = .slice p q r) ∧ (∃ p q r, s_.2.2 = .slice p q r)) ∧ R8 w3.heap.size w3 (dropAt t.keys n) ([]) (s_.2.2) (.slice none 0 0) (.pointer none) false w') ?_ ?_
                    rotate_left
                    · intro hJ0_5_11
                      refine join_ (σ := Value × Value × Value) 6 #[true, true, true, true, true, true, true, true, true, true, true, false, true, true, true, true, true, false, true, true, true, true, true, false, false, false, false] (fun s_ => [(30, s_.1), (35, s_.2.1), (42, s_.2.2)]) (fun s_ w' => ((∃ p q r, s_.1 = .slice p q r) ∧ (∃ p q r, s_.2.1 = .slice p q r) ∧ (∃ p q r, s_.2.2 = .slice p q r)) ∧ R8 w3.heap.size w3 (t.keys.take n) ([]) (s_.2.1) (s_.2.2) (.pointer none) false w') ?_ ?_
                      rotate_left
                      · intro hJ0_5_12
                        refine join_ (σ := Value × Value × Value) 6 #[true, true, true, true, true, true, true, true, true, true, true, false, false, true, true, true, true, false, true, true, true, true, true, false, false, true, false] (fun s_ => [(30, s_.1), (35, s_.2.1), (5, s_.2.2)]) (fun s_ w' => ((∃ p q r, s_.1 = .slice p q r) ∧ (∃ p q r, s_.2.1 = .slice p q r)) ∧ R8 w3.heap.size w3 (t.keys.take n) ([]) (s_.2.1) (.slice none 0 0) (s_.2.2) true w') ?_ ?_
                        rotate_left
                        · intro hJ0_5_25
                          refine join_ (σ := Value × Value × Value) 6 #[true, true, true, true, true, false, true, true, true, true, true, false, true, true, true, true, true, false, true, true, true, true, true, false, false, true, false] (fun s_ => [(30, s_.1), (42, s_.2.1), (5, s_.2.2)]) (fun s_ w' => ((∃ p q r, s_.1 = .slice p q r) ∧ (∃ p q r, s_.2.1 = .slice p q r)) ∧ R8 w3.heap.size w3 ([]) ([]) (s_.1) (s_.2.1) (s_.2.2) true w') ?_ ?_
                          rotate_left
                          · intro hJ0_12_25
                            refine join_ (σ := Value × Value) 7 #[true, true, true, true, true, true, true, true, true, true, true, false, false, true, true, true, true, false, true, true, true, true, true, false, false, false, false] (fun s_ => [(30, s_.1), (35, s_.2)]) (fun s_ w' => ((∃ p q r, s_.1 = .slice p q r) ∧ (∃ p q r, s_.2 = .slice p q r)) ∧ R8 w3.heap.size w3 (t.keys.take n) ([]) (s_.2) (.slice none 0 0) (.pointer none) false w') ?_ ?_
                            rotate_left
                            · intro hJ0_5
                              refine join_ (σ := Value × Value) 7 #[true, true, true, true, true, false, true, true, true, true, true, false, true, true, true, true, true, false, true, true, true, true, true, false, false, false, false] (fun s_ => [(30, s_.1), (42, s_.2)]) (fun s_ w' => ((∃ p q r, s_.1 = .slice p q r) ∧ (∃ p q r, s_.2 = .slice p q r)) ∧ R8 w3.heap.size w3 ([]) ([]) (s_.1) (s_.2) (.pointer none) false w') ?_ ?_
                              rotate_left
                              · intro hJ0_12
                                refine join_ (σ := Value × Value) 7 #[true, true, true, true, true, false, true, true, true, true, true, false, false, true, true, true, true, false, true, true, true, true, true, false, false, true, false] (fun s_ => [(30, s_.1), (5, s_.2)]) (fun s_ w' => ((∃ p q r, s_.1 = .slice p q r)) ∧ R8 w3.heap.size w3 ([]) ([]) (s_.1) (.slice none 0 0) (s_.2) true w') ?_ ?_
                                rotate_left
                                · intro hJ0_25
                                  refine join_ (σ := Value × Value) 7 #[false, true, true, true, true, false, true, true, true, true, true, false, true, true, true, true, true, false, true, true, true, true, true, false, false, true, false] (fun s_ => [(42, s_.1), (5, s_.2)]) (fun s_ w' => ((∃ p q r, s_.1 = .slice p q r)) ∧ R8 w3.heap.size w3 ([]) ([]) (.slice none 0 0) (s_.1) (s_.2) true w') ?_ ?_
                                  rotate_left
                                  · intro hJ12_25
                                    refine join_ (σ := Value) 8 #[true, true, true, true, true, false, true, true, true, true, true, false, false, true, true, true, true, false, true, true, true, true, true, false, false, false, false] (fun s_ => [(30, s_)]) (fun s_ w' => ((∃ p q r, s_ = .slice p q r)) ∧ R8 w3.heap.size w3 ([]) ([]) (s_) (.slice none 0 0) (.pointer none) false w') ?_ ?_
                                    rotate_left
                                    · intro hJ0
                                      refine join_ (σ := Value) 8 #[false, true, true, true, true, false, true, true, true, true, true, false, true, true, true, true, true, false, true, true, true, true, true, false, false, false, false] (fun s_ => [(42, s_)]) (fun s_ w' => ((∃ p q r, s_ = .slice p q r)) ∧ R8 w3.heap.size w3 ([]) ([]) (.slice none 0 0) (s_) (.pointer none) false w') ?_ ?_
                                      rotate_left
                                      · intro hJ12
                                        refine join_ (σ := Value) 8 #[false, true, true, true, true, false, true, true, true, true, true, false, false, true, true, true, true, false, true, true, true, true, true, false, false, true, false] (fun s_ => [(5, s_)]) (fun s_ w' => (True) ∧ R8 w3.heap.size w3 ([]) ([]) (.slice none 0 0) (.slice none 0 0) (s_) true w') ?_ ?_
                                        rotate_left
                                        · intro hJ25
                                          refine three_ (i := 0) (j := 12) (k := 25) (Ni := some 30) (Nj := some 42) (Nk := some 5) #[true, true, true, true, true, false, true, true, true, true, true, false, false, true, true, true, true, false, true, true, true, true, true, false, false, false, false] #[false, true, true, true, true, false, true, true, true, true, true, false, true, true, true, true, true, false, true, true, true, true, true, false, false, false, false] #[false, true, true, true, true, false, true, true, true, true, true, false, false, true, true, true, true, false, true, true, true, true, true, false, false, true, false] rfl rfl rfl rfl rfl rfl (by kernel_rfl) (by decide) (by decide) (by decide) (fun K hK => ?_) (fun K hK => ?_) (fun K hK => ?_)
                                          · skip
                                            refine value_ (w1 := ?_) (v := ?_) (by rfl) rfl ?_ ?_
                                            rotate_left 2
                                            · go_simp
                                              constructor
                                              · rfl
                                              · rfl
                                            have hN := R8.made_k h8_st.out
                                            refine hK.out _ _ ⟨cell_blk ((hN.bel.block _ HSZ.out).trans HX3.out) 2 rfl, cell_blk ((hN.bel.block _ HSZ.out).trans HX3.out) 3 rfl⟩ (fun hHeld => ?_)
                                            clear hK K
                                            refine norm_ (a' := ?_) ?_ ?_
                                            rotate_left
                                            · show Act.put _ (some 30) _ = _
                                              simp only [Act.put, List.setIfInBounds_toArray, List.set_cons_zero, List.set_cons_succ, i64_w, i32_w]
                                              rfl
                                            exact norm_ (by first | (simp only [putAll, Act.put, List.setIfInBounds_toArray, List.set_cons_zero, List.set_cons_succ]; done) | (simp only [putAll, Act.put, List.setIfInBounds_toArray, List.set_cons_zero, List.set_cons_succ]; rfl)) (hJ0 _ _ ⟨⟨_, _, _, rfl⟩, hN⟩)
                                          · skip
                                            refine value_ (w1 := ?_) (v := ?_) (by rfl) rfl ?_ ?_
                                            rotate_left 2
                                            · go_simp
                                              constructor
                                              · rfl
                                              · rfl
                                            have hN := R8.made_l h8_st.out
                                            refine hK.out _ _ ⟨cell_blk ((hN.bel.block _ HSZ.out).trans HX3.out) 2 rfl, cell_blk ((hN.bel.block _ HSZ.out).trans HX3.out) 3 rfl⟩ (fun hHeld => ?_)
                                            clear hK K
                                            refine norm_ (a' := ?_) ?_ ?_
                                            rotate_left
                                            · show Act.put _ (some 42) _ = _
                                              simp only [Act.put, List.setIfInBounds_toArray, List.set_cons_zero, List.set_cons_succ, i64_w, i32_w]
                                              rfl
                                            exact norm_ (by first | (simp only [putAll, Act.put, List.setIfInBounds_toArray, List.set_cons_zero, List.set_cons_succ]; done) | (simp only [putAll, Act.put, List.setIfInBounds_toArray, List.set_cons_zero, List.set_cons_succ]; rfl)) (hJ12 _ _ ⟨⟨_, _, _, rfl⟩, hN⟩)
                                          · skip
                                            refine value_ (w1 := ?_) (v := ?_) (by rfl) rfl ?_ ?_
                                            rotate_left 2
                                            · go_simp
                                              constructor
                                              · rfl
                                              · rfl
                                            have hN := R8.made_p h8_st.out
                                            refine hK.out _ _ ⟨cell_blk ((hN.bel.block _ HSZ.out).trans HX3.out) 2 rfl, cell_blk ((hN.bel.block _ HSZ.out).trans HX3.out) 3 rfl⟩ (fun hHeld => ?_)
                                            clear hK K
                                            refine norm_ (a' := ?_) ?_ ?_
                                            rotate_left
                                            · show Act.put _ (some 5) _ = _
                                              simp only [Act.put, List.setIfInBounds_toArray, List.set_cons_zero, List.set_cons_succ, i64_w, i32_w]
                                              rfl
                                            exact norm_ (by first | (simp only [putAll, Act.put, List.setIfInBounds_toArray, List.set_cons_zero, List.set_cons_succ]; done) | (simp only [putAll, Act.put, List.setIfInBounds_toArray, List.set_cons_zero, List.set_cons_succ]; rfl)) (hJ25 _ _ ⟨trivial, hN⟩)
                                        · skip
                                          rintro a25 wn ⟨hsh, h8_25⟩
                                          clear hsh
                                          obtain ⟨pb, hpb, _⟩ := h8_25.pt rfl
                                          subst hpb
                                          have hHeld := And.intro (cell_blk ((h8_25.bel.block _ HSZ.out).trans HX3.out) 2 rfl) (cell_blk ((h8_25.bel.block _ HSZ.out).trans HX3.out) 3 rfl)
                                          refine norm_ (a' := ?_) ?_ ?_
                                          rotate_left
                                          · simp only [putAll, Act.put, List.setIfInBounds_toArray, List.set_cons_zero, List.set_cons_succ]
                                            rfl
                                          refine two_ (i := 0) (j := 12) (Ni := some 30) (Nj := some 42) #[true, true, true, true, true, false, true, true, true, true, true, false, false, true, true, true, true, false, true, true, true, true, true, false, false, true, false] #[false, true, true, true, true, false, true, true, true, true, true, false, true, true, true, true, true, false, true, true, true, true, true, false, false, true, false] rfl rfl rfl rfl (by kernel_rfl) (by decide) (by decide) (fun K hK => ?_) (fun K hK => ?_)
                                          · skip
                                            refine value_ (w1 := ?_) (v := ?_) (by rfl) rfl ?_ ?_
                                            rotate_left 2
                                            · go_simp
                                              constructor
                                              · rfl
                                              · rfl
                                            have hN := R8.made_k h8_25
                                            refine hK.out _ _ ⟨cell_blk ((hN.bel.block _ HSZ.out).trans HX3.out) 2 rfl, cell_blk ((hN.bel.block _ HSZ.out).trans HX3.out) 3 rfl⟩ (fun hHeld => ?_)
                                            clear hK K
                                            refine norm_ (a' := ?_) ?_ ?_
                                            rotate_left
                                            · show Act.put _ (some 30) _ = _
                                              simp only [Act.put, List.setIfInBounds_toArray, List.set_cons_zero, List.set_cons_succ, i64_w, i32_w]
                                              rfl
                                            exact norm_ (by first | (simp only [putAll, Act.put, List.setIfInBounds_toArray, List.set_cons_zero, List.set_cons_succ]; done) | (simp only [putAll, Act.put, List.setIfInBounds_toArray, List.set_cons_zero, List.set_cons_succ]; rfl)) (hJ0_25 (_, .pointer (some ⟨pb, 0, none⟩)) _ ⟨⟨_, _, _, rfl⟩, hN⟩)
                                          · skip
                                            refine value_ (w1 := ?_) (v := ?_) (by rfl) rfl ?_ ?_
                                            rotate_left 2
                                            · go_simp
                                              constructor
                                              · rfl
                                              · rfl
                                            have hN := R8.made_l h8_25
                                            refine hK.out _ _ ⟨cell_blk ((hN.bel.block _ HSZ.out).trans HX3.out) 2 rfl, cell_blk ((hN.bel.block _ HSZ.out).trans HX3.out) 3 rfl⟩ (fun hHeld => ?_)
                                            clear hK K
                                            refine norm_ (a' := ?_) ?_ ?_
                                            rotate_left
                                            · show Act.put _ (some 42) _ = _
                                              simp only [Act.put, List.setIfInBounds_toArray, List.set_cons_zero, List.set_cons_succ, i64_w, i32_w]
                                              rfl
                                            exact norm_ (by first | (simp only [putAll, Act.put, List.setIfInBounds_toArray, List.set_cons_zero, List.set_cons_succ]; done) | (simp only [putAll, Act.put, List.setIfInBounds_toArray, List.set_cons_zero, List.set_cons_succ]; rfl)) (hJ12_25 (_, .pointer (some ⟨pb, 0, none⟩)) _ ⟨⟨_, _, _, rfl⟩, hN⟩)
                                      · skip
                                        rintro a12 wn ⟨hsh, h8_12⟩
                                        obtain ⟨p12, q12, r12, rfl⟩ := hsh
                                        have hHeld := And.intro (cell_blk ((h8_12.bel.block _ HSZ.out).trans HX3.out) 2 rfl) (cell_blk ((h8_12.bel.block _ HSZ.out).trans HX3.out) 3 rfl)
                                        refine norm_ (a' := ?_) ?_ ?_
                                        rotate_left
                                        · simp only [putAll, Act.put, List.setIfInBounds_toArray, List.set_cons_zero, List.set_cons_succ]
                                          rfl
                                        refine two_ (i := 0) (j := 25) (Ni := some 30) (Nj := some 5) #[true, true, true, true, true, false, true, true, true, true, true, false, true, true, true, true, true, false, true, true, true, true, true, false, false, false, false] #[false, true, true, true, true, false, true, true, true, true, true, false, true, true, true, true, true, false, true, true, true, true, true, false, false, true, false] rfl rfl rfl rfl (by kernel_rfl) (by decide) (by decide) (fun K hK => ?_) (fun K hK => ?_)
                                        · skip
                                          refine value_ (w1 := ?_) (v := ?_) (by rfl) rfl ?_ ?_
                                          rotate_left 2
                                          · go_simp
                                            constructor
                                            · rfl
                                            · rfl
                                          have hN := R8.made_k h8_12
                                          refine hK.out _ _ ⟨cell_blk ((hN.bel.block _ HSZ.out).trans HX3.out) 2 rfl, cell_blk ((hN.bel.block _ HSZ.out).trans HX3.out) 3 rfl⟩ (fun hHeld => ?_)
                                          clear hK K
                                          refine norm_ (a' := ?_) ?_ ?_
                                          rotate_left
                                          · show Act.put _ (some 30) _ = _
                                            simp only [Act.put, List.setIfInBounds_toArray, List.set_cons_zero, List.set_cons_succ, i64_w, i32_w]
                                            rfl
                                          exact norm_ (by first | (simp only [putAll, Act.put, List.setIfInBounds_toArray, List.set_cons_zero, List.set_cons_succ]; done) | (simp only [putAll, Act.put, List.setIfInBounds_toArray, List.set_cons_zero, List.set_cons_succ]; rfl)) (hJ0_12 (_, .slice p12 q12 r12) _ ⟨⟨⟨_, _, _, rfl⟩, ⟨_, _, _, rfl⟩⟩, hN⟩)
                                        · skip
                                          refine value_ (w1 := ?_) (v := ?_) (by rfl) rfl ?_ ?_
                                          rotate_left 2
                                          · go_simp
                                            constructor
                                            · rfl
                                            · rfl
                                          have hN := R8.made_p h8_12
                                          refine hK.out _ _ ⟨cell_blk ((hN.bel.block _ HSZ.out).trans HX3.out) 2 rfl, cell_blk ((hN.bel.block _ HSZ.out).trans HX3.out) 3 rfl⟩ (fun hHeld => ?_)
                                          clear hK K
                                          refine norm_ (a' := ?_) ?_ ?_
                                          rotate_left
                                          · show Act.put _ (some 5) _ = _
                                            simp only [Act.put, List.setIfInBounds_toArray, List.set_cons_zero, List.set_cons_succ, i64_w, i32_w]
                                            rfl
                                          exact norm_ (by first | (simp only [putAll, Act.put, List.setIfInBounds_toArray, List.set_cons_zero, List.set_cons_succ]; done) | (simp only [putAll, Act.put, List.setIfInBounds_toArray, List.set_cons_zero, List.set_cons_succ]; rfl)) (hJ12_25 (.slice p12 q12 r12, _) _ ⟨⟨_, _, _, rfl⟩, hN⟩)
                                    · skip
                                      rintro a0 wn ⟨hsh, h8_0⟩
                                      obtain ⟨p0, q0, r0, rfl⟩ := hsh
                                      have hHeld := And.intro (cell_blk ((h8_0.bel.block _ HSZ.out).trans HX3.out) 2 rfl) (cell_blk ((h8_0.bel.block _ HSZ.out).trans HX3.out) 3 rfl)
                                      refine norm_ (a' := ?_) ?_ ?_
                                      rotate_left
                                      · simp only [putAll, Act.put, List.setIfInBounds_toArray, List.set_cons_zero, List.set_cons_succ]
                                        rfl
                                      refine three_ (i := 5) (j := 12) (k := 25) (Ni := some 35) (Nj := some 42) (Nk := some 5) #[true, true, true, true, true, true, true, true, true, true, true, false, false, true, true, true, true, false, true, true, true, true, true, false, false, false, false] #[true, true, true, true, true, false, true, true, true, true, true, false, true, true, true, true, true, false, true, true, true, true, true, false, false, false, false] #[true, true, true, true, true, false, true, true, true, true, true, false, false, true, true, true, true, false, true, true, true, true, true, false, false, true, false] rfl rfl rfl rfl rfl rfl (by kernel_rfl) (by decide) (by decide) (by decide) (fun K hK => ?_) (fun K hK => ?_) (fun K hK => ?_)
                                      · skip
                                        refine step_app rfl _ _ _ rfl sl26 _ _ _ rfl h8_0.ks _ _ _ (strV (t.keys.take n)) rfl (by simp [strV]; try omega) (fun j u hu => (HM3.out.trans (mle_below h8_0.bel)) _ _ (HKC.out.1 j u hu)) (one_str _) (by have := HK5.out; simp [maxLen]; omega) (by have := HK5.out; simp; omega) h8_0.sz ?_
                                        intro v5 w5 ho5 hg5 hat5
                                        have hN := h8_0.app_k (l2 := t.keys.take n) (by first | exact ho5 | (have e := ho5; simp only [List.length_take, List.length_drop, Nat.min_eq_left (Nat.le_of_lt hn)] at e ⊢; exact e)) hg5 hat5
                                        obtain ⟨vp, vq, vr, rfl⟩ := slice_of ho5
                                        refine hK.out _ _ ⟨cell_blk ((hN.bel.block _ HSZ.out).trans HX3.out) 2 rfl, cell_blk ((hN.bel.block _ HSZ.out).trans HX3.out) 3 rfl⟩ (fun hHeld => ?_)
                                        clear hK K
                                        refine norm_ (a' := ?_) ?_ ?_
                                        rotate_left
                                        · show Act.put _ (some 35) _ = _
                                          simp only [Act.put, List.setIfInBounds_toArray, List.set_cons_zero, List.set_cons_succ, i64_w, i32_w]
                                          rfl
                                        exact norm_ (by first | (simp only [putAll, Act.put, List.setIfInBounds_toArray, List.set_cons_zero, List.set_cons_succ]; done) | (simp only [putAll, Act.put, List.setIfInBounds_toArray, List.set_cons_zero, List.set_cons_succ]; rfl)) (hJ0_5 (.slice p0 q0 r0, _) _ ⟨⟨⟨_, _, _, rfl⟩, ⟨_, _, _, rfl⟩⟩, hN⟩)
                                      · skip
                                        refine value_ (w1 := ?_) (v := ?_) (by rfl) rfl ?_ ?_
                                        rotate_left 2
                                        · go_simp
                                          constructor
                                          · rfl
                                          · rfl
                                        have hN := R8.made_l h8_0
                                        refine hK.out _ _ ⟨cell_blk ((hN.bel.block _ HSZ.out).trans HX3.out) 2 rfl, cell_blk ((hN.bel.block _ HSZ.out).trans HX3.out) 3 rfl⟩ (fun hHeld => ?_)
                                        clear hK K
                                        refine norm_ (a' := ?_) ?_ ?_
                                        rotate_left
                                        · show Act.put _ (some 42) _ = _
                                          simp only [Act.put, List.setIfInBounds_toArray, List.set_cons_zero, List.set_cons_succ, i64_w, i32_w]
                                          rfl
                                        exact norm_ (by first | (simp only [putAll, Act.put, List.setIfInBounds_toArray, List.set_cons_zero, List.set_cons_succ]; done) | (simp only [putAll, Act.put, List.setIfInBounds_toArray, List.set_cons_zero, List.set_cons_succ]; rfl)) (hJ0_12 (.slice p0 q0 r0, _) _ ⟨⟨⟨_, _, _, rfl⟩, ⟨_, _, _, rfl⟩⟩, hN⟩)
                                      · skip
                                        refine value_ (w1 := ?_) (v := ?_) (by rfl) rfl ?_ ?_
                                        rotate_left 2
                                        · go_simp
                                          constructor
                                          · rfl
                                          · rfl
                                        have hN := R8.made_p h8_0
                                        refine hK.out _ _ ⟨cell_blk ((hN.bel.block _ HSZ.out).trans HX3.out) 2 rfl, cell_blk ((hN.bel.block _ HSZ.out).trans HX3.out) 3 rfl⟩ (fun hHeld => ?_)
                                        clear hK K
                                        refine norm_ (a' := ?_) ?_ ?_
                                        rotate_left
                                        · show Act.put _ (some 5) _ = _
                                          simp only [Act.put, List.setIfInBounds_toArray, List.set_cons_zero, List.set_cons_succ, i64_w, i32_w]
                                          rfl
                                        exact norm_ (by first | (simp only [putAll, Act.put, List.setIfInBounds_toArray, List.set_cons_zero, List.set_cons_succ]; done) | (simp only [putAll, Act.put, List.setIfInBounds_toArray, List.set_cons_zero, List.set_cons_succ]; rfl)) (hJ0_25 (.slice p0 q0 r0, _) _ ⟨⟨_, _, _, rfl⟩, hN⟩)
                                  · skip
                                    rintro ⟨a12, a25⟩ wn ⟨hsh, h8_12_25⟩
                                    obtain ⟨p12, q12, r12, rfl⟩ := hsh
                                    obtain ⟨pb, hpb, _⟩ := h8_12_25.pt rfl
                                    subst hpb
                                    have hHeld := And.intro (cell_blk ((h8_12_25.bel.block _ HSZ.out).trans HX3.out) 2 rfl) (cell_blk ((h8_12_25.bel.block _ HSZ.out).trans HX3.out) 3 rfl)
                                    refine norm_ (a' := ?_) ?_ ?_
                                    rotate_left
                                    · simp only [putAll, Act.put, List.setIfInBounds_toArray, List.set_cons_zero, List.set_cons_succ]
                                      rfl
                                    refine one_ (i := 0) (N := some 30) #[true, true, true, true, true, false, true, true, true, true, true, false, true, true, true, true, true, false, true, true, true, true, true, false, false, true, false] rfl rfl (by kernel_rfl) (by decide) (fun K hK => ?_)
                                    refine value_ (w1 := ?_) (v := ?_) (by rfl) rfl ?_ ?_
                                    rotate_left 2
                                    · go_simp
                                      constructor
                                      · rfl
                                      · rfl
                                    have hN := R8.made_k h8_12_25
                                    refine hK.out _ _ ⟨cell_blk ((hN.bel.block _ HSZ.out).trans HX3.out) 2 rfl, cell_blk ((hN.bel.block _ HSZ.out).trans HX3.out) 3 rfl⟩ (fun hHeld => ?_)
                                    clear hK K
                                    refine norm_ (a' := ?_) ?_ ?_
                                    rotate_left
                                    · show Act.put _ (some 30) _ = _
                                      simp only [Act.put, List.setIfInBounds_toArray, List.set_cons_zero, List.set_cons_succ, i64_w, i32_w]
                                      rfl
                                    exact norm_ (by first | (simp only [putAll, Act.put, List.setIfInBounds_toArray, List.set_cons_zero, List.set_cons_succ]; done) | (simp only [putAll, Act.put, List.setIfInBounds_toArray, List.set_cons_zero, List.set_cons_succ]; rfl)) (hJ0_12_25 (_, .slice p12 q12 r12, .pointer (some ⟨pb, 0, none⟩)) _ ⟨⟨⟨_, _, _, rfl⟩, ⟨_, _, _, rfl⟩⟩, hN⟩)
                                · skip
                                  rintro ⟨a0, a25⟩ wn ⟨hsh, h8_0_25⟩
                                  obtain ⟨p0, q0, r0, rfl⟩ := hsh
                                  obtain ⟨pb, hpb, _⟩ := h8_0_25.pt rfl
                                  subst hpb
                                  have hHeld := And.intro (cell_blk ((h8_0_25.bel.block _ HSZ.out).trans HX3.out) 2 rfl) (cell_blk ((h8_0_25.bel.block _ HSZ.out).trans HX3.out) 3 rfl)
                                  refine norm_ (a' := ?_) ?_ ?_
                                  rotate_left
                                  · simp only [putAll, Act.put, List.setIfInBounds_toArray, List.set_cons_zero, List.set_cons_succ]
                                    rfl
                                  refine two_ (i := 5) (j := 12) (Ni := some 35) (Nj := some 42) #[true, true, true, true, true, true, true, true, true, true, true, false, false, true, true, true, true, false, true, true, true, true, true, false, false, true, false] #[true, true, true, true, true, false, true, true, true, true, true, false, true, true, true, true, true, false, true, true, true, true, true, false, false, true, false] rfl rfl rfl rfl (by kernel_rfl) (by decide) (by decide) (fun K hK => ?_) (fun K hK => ?_)
                                  · skip
                                    refine step_app rfl _ _ _ rfl sl26 _ _ _ rfl h8_0_25.ks _ _ _ (strV (t.keys.take n)) rfl (by simp [strV]; try omega) (fun j u hu => (HM3.out.trans (mle_below h8_0_25.bel)) _ _ (HKC.out.1 j u hu)) (one_str _) (by have := HK5.out; simp [maxLen]; omega) (by have := HK5.out; simp; omega) h8_0_25.sz ?_
                                    intro v5 w5 ho5 hg5 hat5
                                    have hN := h8_0_25.app_k (l2 := t.keys.take n) (by first | exact ho5 | (have e := ho5; simp only [List.length_take, List.length_drop, Nat.min_eq_left (Nat.le_of_lt hn)] at e ⊢; exact e)) hg5 hat5
                                    obtain ⟨vp, vq, vr, rfl⟩ := slice_of ho5
                                    refine hK.out _ _ ⟨cell_blk ((hN.bel.block _ HSZ.out).trans HX3.out) 2 rfl, cell_blk ((hN.bel.block _ HSZ.out).trans HX3.out) 3 rfl⟩ (fun hHeld => ?_)
                                    clear hK K
                                    refine norm_ (a' := ?_) ?_ ?_
                                    rotate_left
                                    · show Act.put _ (some 35) _ = _
                                      simp only [Act.put, List.setIfInBounds_toArray, List.set_cons_zero, List.set_cons_succ, i64_w, i32_w]
                                      rfl
                                    exact norm_ (by first | (simp only [putAll, Act.put, List.setIfInBounds_toArray, List.set_cons_zero, List.set_cons_succ]; done) | (simp only [putAll, Act.put, List.setIfInBounds_toArray, List.set_cons_zero, List.set_cons_succ]; rfl)) (hJ0_5_25 (.slice p0 q0 r0, _, .pointer (some ⟨pb, 0, none⟩)) _ ⟨⟨⟨_, _, _, rfl⟩, ⟨_, _, _, rfl⟩⟩, hN⟩)
                                  · skip
                                    refine value_ (w1 := ?_) (v := ?_) (by rfl) rfl ?_ ?_
                                    rotate_left 2
                                    · go_simp
                                      constructor
                                      · rfl
                                      · rfl
                                    have hN := R8.made_l h8_0_25
                                    refine hK.out _ _ ⟨cell_blk ((hN.bel.block _ HSZ.out).trans HX3.out) 2 rfl, cell_blk ((hN.bel.block _ HSZ.out).trans HX3.out) 3 rfl⟩ (fun hHeld => ?_)
                                    clear hK K
                                    refine norm_ (a' := ?_) ?_ ?_
                                    rotate_left
                                    · show Act.put _ (some 42) _ = _
                                      simp only [Act.put, List.setIfInBounds_toArray, List.set_cons_zero, List.set_cons_succ, i64_w, i32_w]
                                      rfl
                                    exact norm_ (by first | (simp only [putAll, Act.put, List.setIfInBounds_toArray, List.set_cons_zero, List.set_cons_succ]; done) | (simp only [putAll, Act.put, List.setIfInBounds_toArray, List.set_cons_zero, List.set_cons_succ]; rfl)) (hJ0_12_25 (.slice p0 q0 r0, _, .pointer (some ⟨pb, 0, none⟩)) _ ⟨⟨⟨_, _, _, rfl⟩, ⟨_, _, _, rfl⟩⟩, hN⟩)
                              · skip
                                rintro ⟨a0, a12⟩ wn ⟨hsh, h8_0_12⟩
                                obtain ⟨⟨p0, q0, r0, rfl⟩, ⟨p12, q12, r12, rfl⟩⟩ := hsh
                                have hHeld := And.intro (cell_blk ((h8_0_12.bel.block _ HSZ.out).trans HX3.out) 2 rfl) (cell_blk ((h8_0_12.bel.block _ HSZ.out).trans HX3.out) 3 rfl)
                                refine norm_ (a' := ?_) ?_ ?_
                                rotate_left
                                · simp only [putAll, Act.put, List.setIfInBounds_toArray, List.set_cons_zero, List.set_cons_succ]
                                  rfl
                                refine two_ (i := 5) (j := 25) (Ni := some 35) (Nj := some 5) #[true, true, true, true, true, true, true, true, true, true, true, false, true, true, true, true, true, false, true, true, true, true, true, false, false, false, false] #[true, true, true, true, true, false, true, true, true, true, true, false, true, true, true, true, true, false, true, true, true, true, true, false, false, true, false] rfl rfl rfl rfl (by kernel_rfl) (by decide) (by decide) (fun K hK => ?_) (fun K hK => ?_)
                                · skip
                                  refine step_app rfl _ _ _ rfl sl26 _ _ _ rfl h8_0_12.ks _ _ _ (strV (t.keys.take n)) rfl (by simp [strV]; try omega) (fun j u hu => (HM3.out.trans (mle_below h8_0_12.bel)) _ _ (HKC.out.1 j u hu)) (one_str _) (by have := HK5.out; simp [maxLen]; omega) (by have := HK5.out; simp; omega) h8_0_12.sz ?_
                                  intro v5 w5 ho5 hg5 hat5
                                  have hN := h8_0_12.app_k (l2 := t.keys.take n) (by first | exact ho5 | (have e := ho5; simp only [List.length_take, List.length_drop, Nat.min_eq_left (Nat.le_of_lt hn)] at e ⊢; exact e)) hg5 hat5
                                  obtain ⟨vp, vq, vr, rfl⟩ := slice_of ho5
                                  refine hK.out _ _ ⟨cell_blk ((hN.bel.block _ HSZ.out).trans HX3.out) 2 rfl, cell_blk ((hN.bel.block _ HSZ.out).trans HX3.out) 3 rfl⟩ (fun hHeld => ?_)
                                  clear hK K
                                  refine norm_ (a' := ?_) ?_ ?_
                                  rotate_left
                                  · show Act.put _ (some 35) _ = _
                                    simp only [Act.put, List.setIfInBounds_toArray, List.set_cons_zero, List.set_cons_succ, i64_w, i32_w]
                                    rfl
                                  exact norm_ (by first | (simp only [putAll, Act.put, List.setIfInBounds_toArray, List.set_cons_zero, List.set_cons_succ]; done) | (simp only [putAll, Act.put, List.setIfInBounds_toArray, List.set_cons_zero, List.set_cons_succ]; rfl)) (hJ0_5_12 (.slice p0 q0 r0, _, .slice p12 q12 r12) _ ⟨⟨⟨_, _, _, rfl⟩, ⟨_, _, _, rfl⟩, ⟨_, _, _, rfl⟩⟩, hN⟩)
                                · skip
                                  refine value_ (w1 := ?_) (v := ?_) (by rfl) rfl ?_ ?_
                                  rotate_left 2
                                  · go_simp
                                    constructor
                                    · rfl
                                    · rfl
                                  have hN := R8.made_p h8_0_12
                                  refine hK.out _ _ ⟨cell_blk ((hN.bel.block _ HSZ.out).trans HX3.out) 2 rfl, cell_blk ((hN.bel.block _ HSZ.out).trans HX3.out) 3 rfl⟩ (fun hHeld => ?_)
                                  clear hK K
                                  refine norm_ (a' := ?_) ?_ ?_
                                  rotate_left
                                  · show Act.put _ (some 5) _ = _
                                    simp only [Act.put, List.setIfInBounds_toArray, List.set_cons_zero, List.set_cons_succ, i64_w, i32_w]
                                    rfl
                                  exact norm_ (by first | (simp only [putAll, Act.put, List.setIfInBounds_toArray, List.set_cons_zero, List.set_cons_succ]; done) | (simp only [putAll, Act.put, List.setIfInBounds_toArray, List.set_cons_zero, List.set_cons_succ]; rfl)) (hJ0_12_25 (.slice p0 q0 r0, .slice p12 q12 r12, _) _ ⟨⟨⟨_, _, _, rfl⟩, ⟨_, _, _, rfl⟩⟩, hN⟩)
                            · skip
                              rintro ⟨a0, a5⟩ wn ⟨hsh, h8_0_5⟩
                              obtain ⟨⟨p0, q0, r0, rfl⟩, ⟨p5, q5, r5, rfl⟩⟩ := hsh
                              have hHeld := And.intro (cell_blk ((h8_0_5.bel.block _ HSZ.out).trans HX3.out) 2 rfl) (cell_blk ((h8_0_5.bel.block _ HSZ.out).trans HX3.out) 3 rfl)
                              refine norm_ (a' := ?_) ?_ ?_
                              rotate_left
                              · simp only [putAll, Act.put, List.setIfInBounds_toArray, List.set_cons_zero, List.set_cons_succ]
                                rfl
                              refine three_ (i := 11) (j := 12) (k := 25) (Ni := some 41) (Nj := some 42) (Nk := some 5) #[true, true, true, true, true, true, true, true, true, true, true, true, false, true, true, true, true, false, true, true, true, true, true, false, false, false, false] #[true, true, true, true, true, true, true, true, true, true, true, false, true, true, true, true, true, false, true, true, true, true, true, false, false, false, false] #[true, true, true, true, true, true, true, true, true, true, true, false, false, true, true, true, true, false, true, true, true, true, true, false, false, true, false] rfl rfl rfl rfl rfl rfl (by kernel_rfl) (by decide) (by decide) (by decide) (fun K hK => ?_) (fun K hK => ?_) (fun K hK => ?_)
                              · skip
                                refine step_app rfl _ _ _ rfl sl26 _ _ _ rfl h8_0_5.ks _ _ _ (strV (t.keys.drop (n + 1))) rfl (by simp [strV]; try omega) (fun j u hu => (HM3.out.trans (mle_below h8_0_5.bel)) _ _ (HKC.out.2 j u hu)) (one_str _) (by have := HK5.out; simp [maxLen]; omega) (by have := HK5.out; simp; omega) h8_0_5.sz ?_
                                intro v5 w5 ho5 hg5 hat5
                                have hN := h8_0_5.app_k (l2 := t.keys.drop (n + 1)) (by first | exact ho5 | (have e := ho5; simp only [List.length_take, List.length_drop, Nat.min_eq_left (Nat.le_of_lt hn)] at e ⊢; exact e)) hg5 hat5
                                obtain ⟨vp, vq, vr, rfl⟩ := slice_of ho5
                                refine hK.out _ _ ⟨cell_blk ((hN.bel.block _ HSZ.out).trans HX3.out) 2 rfl, cell_blk ((hN.bel.block _ HSZ.out).trans HX3.out) 3 rfl⟩ (fun hHeld => ?_)
                                clear hK K
                                refine norm_ (a' := ?_) ?_ ?_
                                rotate_left
                                · show Act.put _ (some 41) _ = _
                                  simp only [Act.put, List.setIfInBounds_toArray, List.set_cons_zero, List.set_cons_succ, i64_w, i32_w]
                                  rfl
                                exact norm_ (by first | (simp only [putAll, Act.put, List.setIfInBounds_toArray, List.set_cons_zero, List.set_cons_succ]; done) | (simp only [putAll, Act.put, List.setIfInBounds_toArray, List.set_cons_zero, List.set_cons_succ]; rfl)) (hJ0_5_11 (.slice p0 q0 r0, .slice p5 q5 r5, _) _ ⟨⟨⟨_, _, _, rfl⟩, ⟨_, _, _, rfl⟩, ⟨_, _, _, rfl⟩⟩, hN⟩)
                              · skip
                                refine value_ (w1 := ?_) (v := ?_) (by rfl) rfl ?_ ?_
                                rotate_left 2
                                · go_simp
                                  constructor
                                  · rfl
                                  · rfl
                                have hN := R8.made_l h8_0_5
                                refine hK.out _ _ ⟨cell_blk ((hN.bel.block _ HSZ.out).trans HX3.out) 2 rfl, cell_blk ((hN.bel.block _ HSZ.out).trans HX3.out) 3 rfl⟩ (fun hHeld => ?_)
                                clear hK K
                                refine norm_ (a' := ?_) ?_ ?_
                                rotate_left
                                · show Act.put _ (some 42) _ = _
                                  simp only [Act.put, List.setIfInBounds_toArray, List.set_cons_zero, List.set_cons_succ, i64_w, i32_w]
                                  rfl
                                exact norm_ (by first | (simp only [putAll, Act.put, List.setIfInBounds_toArray, List.set_cons_zero, List.set_cons_succ]; done) | (simp only [putAll, Act.put, List.setIfInBounds_toArray, List.set_cons_zero, List.set_cons_succ]; rfl)) (hJ0_5_12 (.slice p0 q0 r0, .slice p5 q5 r5, _) _ ⟨⟨⟨_, _, _, rfl⟩, ⟨_, _, _, rfl⟩, ⟨_, _, _, rfl⟩⟩, hN⟩)
                              · skip
                                refine value_ (w1 := ?_) (v := ?_) (by rfl) rfl ?_ ?_
                                rotate_left 2
                                · go_simp
                                  constructor
                                  · rfl
                                  · rfl
                                have hN := R8.made_p h8_0_5
                                refine hK.out _ _ ⟨cell_blk ((hN.bel.block _ HSZ.out).trans HX3.out) 2 rfl, cell_blk ((hN.bel.block _ HSZ.out).trans HX3.out) 3 rfl⟩ (fun hHeld => ?_)
                                clear hK K
                                refine norm_ (a' := ?_) ?_ ?_
                                rotate_left
                                · show Act.put _ (some 5) _ = _
                                  simp only [Act.put, List.setIfInBounds_toArray, List.set_cons_zero, List.set_cons_succ, i64_w, i32_w]
                                  rfl
                                exact norm_ (by first | (simp only [putAll, Act.put, List.setIfInBounds_toArray, List.set_cons_zero, List.set_cons_succ]; done) | (simp only [putAll, Act.put, List.setIfInBounds_toArray, List.set_cons_zero, List.set_cons_succ]; rfl)) (hJ0_5_25 (.slice p0 q0 r0, .slice p5 q5 r5, _) _ ⟨⟨⟨_, _, _, rfl⟩, ⟨_, _, _, rfl⟩⟩, hN⟩)
                          · skip
                            rintro ⟨a0, a12, a25⟩ wn ⟨hsh, h8_0_12_25⟩
                            obtain ⟨⟨p0, q0, r0, rfl⟩, ⟨p12, q12, r12, rfl⟩⟩ := hsh
                            obtain ⟨pb, hpb, _⟩ := h8_0_12_25.pt rfl
                            subst hpb
                            have hHeld := And.intro (cell_blk ((h8_0_12_25.bel.block _ HSZ.out).trans HX3.out) 2 rfl) (cell_blk ((h8_0_12_25.bel.block _ HSZ.out).trans HX3.out) 3 rfl)
                            refine norm_ (a' := ?_) ?_ ?_
                            rotate_left
                            · simp only [putAll, Act.put, List.setIfInBounds_toArray, List.set_cons_zero, List.set_cons_succ]
                              rfl
                            refine one_ (i := 5) (N := some 35) #[true, true, true, true, true, true, true, true, true, true, true, false, true, true, true, true, true, false, true, true, true, true, true, false, false, true, false] rfl rfl (by kernel_rfl) (by decide) (fun K hK => ?_)
                            refine step_app rfl _ _ _ rfl sl26 _ _ _ rfl h8_0_12_25.ks _ _ _ (strV (t.keys.take n)) rfl (by simp [strV]; try omega) (fun j u hu => (HM3.out.trans (mle_below h8_0_12_25.bel)) _ _ (HKC.out.1 j u hu)) (one_str _) (by have := HK5.out; simp [maxLen]; omega) (by have := HK5.out; simp; omega) h8_0_12_25.sz ?_
                            intro v5 w5 ho5 hg5 hat5
                            have hN := h8_0_12_25.app_k (l2 := t.keys.take n) (by first | exact ho5 | (have e := ho5; simp only [List.length_take, List.length_drop, Nat.min_eq_left (Nat.le_of_lt hn)] at e ⊢; exact e)) hg5 hat5
                            obtain ⟨vp, vq, vr, rfl⟩ := slice_of ho5
                            refine hK.out _ _ ⟨cell_blk ((hN.bel.block _ HSZ.out).trans HX3.out) 2 rfl, cell_blk ((hN.bel.block _ HSZ.out).trans HX3.out) 3 rfl⟩ (fun hHeld => ?_)
                            clear hK K
                            refine norm_ (a' := ?_) ?_ ?_
                            rotate_left
                            · show Act.put _ (some 35) _ = _
                              simp only [Act.put, List.setIfInBounds_toArray, List.set_cons_zero, List.set_cons_succ, i64_w, i32_w]
                              rfl
                            exact norm_ (by first | (simp only [putAll, Act.put, List.setIfInBounds_toArray, List.set_cons_zero, List.set_cons_succ]; done) | (simp only [putAll, Act.put, List.setIfInBounds_toArray, List.set_cons_zero, List.set_cons_succ]; rfl)) (hJ0_5_12_25 (.slice p0 q0 r0, _, .slice p12 q12 r12, .pointer (some ⟨pb, 0, none⟩)) _ ⟨⟨⟨_, _, _, rfl⟩, ⟨_, _, _, rfl⟩, ⟨_, _, _, rfl⟩⟩, hN⟩)
                        · skip
                          rintro ⟨a0, a5, a25⟩ wn ⟨hsh, h8_0_5_25⟩
                          obtain ⟨⟨p0, q0, r0, rfl⟩, ⟨p5, q5, r5, rfl⟩⟩ := hsh
                          obtain ⟨pb, hpb, _⟩ := h8_0_5_25.pt rfl
                          subst hpb
                          have hHeld := And.intro (cell_blk ((h8_0_5_25.bel.block _ HSZ.out).trans HX3.out) 2 rfl) (cell_blk ((h8_0_5_25.bel.block _ HSZ.out).trans HX3.out) 3 rfl)
                          refine norm_ (a' := ?_) ?_ ?_
                          rotate_left
                          · simp only [putAll, Act.put, List.setIfInBounds_toArray, List.set_cons_zero, List.set_cons_succ]
                            rfl
                          refine two_ (i := 11) (j := 12) (Ni := some 41) (Nj := some 42) #[true, true, true, true, true, true, true, true, true, true, true, true, false, true, true, true, true, false, true, true, true, true, true, false, false, true, false] #[true, true, true, true, true, true, true, true, true, true, true, false, true, true, true, true, true, false, true, true, true, true, true, false, false, true, false] rfl rfl rfl rfl (by kernel_rfl) (by decide) (by decide) (fun K hK => ?_) (fun K hK => ?_)
                          · skip
                            refine step_app rfl _ _ _ rfl sl26 _ _ _ rfl h8_0_5_25.ks _ _ _ (strV (t.keys.drop (n + 1))) rfl (by simp [strV]; try omega) (fun j u hu => (HM3.out.trans (mle_below h8_0_5_25.bel)) _ _ (HKC.out.2 j u hu)) (one_str _) (by have := HK5.out; simp [maxLen]; omega) (by have := HK5.out; simp; omega) h8_0_5_25.sz ?_
                            intro v5 w5 ho5 hg5 hat5
                            have hN := h8_0_5_25.app_k (l2 := t.keys.drop (n + 1)) (by first | exact ho5 | (have e := ho5; simp only [List.length_take, List.length_drop, Nat.min_eq_left (Nat.le_of_lt hn)] at e ⊢; exact e)) hg5 hat5
                            obtain ⟨vp, vq, vr, rfl⟩ := slice_of ho5
                            refine hK.out _ _ ⟨cell_blk ((hN.bel.block _ HSZ.out).trans HX3.out) 2 rfl, cell_blk ((hN.bel.block _ HSZ.out).trans HX3.out) 3 rfl⟩ (fun hHeld => ?_)
                            clear hK K
                            refine norm_ (a' := ?_) ?_ ?_
                            rotate_left
                            · show Act.put _ (some 41) _ = _
                              simp only [Act.put, List.setIfInBounds_toArray, List.set_cons_zero, List.set_cons_succ, i64_w, i32_w]
                              rfl
                            exact norm_ (by first | (simp only [putAll, Act.put, List.setIfInBounds_toArray, List.set_cons_zero, List.set_cons_succ]; done) | (simp only [putAll, Act.put, List.setIfInBounds_toArray, List.set_cons_zero, List.set_cons_succ]; rfl)) (hJ0_5_11_25 (.slice p0 q0 r0, .slice p5 q5 r5, _, .pointer (some ⟨pb, 0, none⟩)) _ ⟨⟨⟨_, _, _, rfl⟩, ⟨_, _, _, rfl⟩, ⟨_, _, _, rfl⟩⟩, hN⟩)
                          · skip
                            refine value_ (w1 := ?_) (v := ?_) (by rfl) rfl ?_ ?_
                            rotate_left 2
                            · go_simp
                              constructor
                              · rfl
                              · rfl
                            have hN := R8.made_l h8_0_5_25
                            refine hK.out _ _ ⟨cell_blk ((hN.bel.block _ HSZ.out).trans HX3.out) 2 rfl, cell_blk ((hN.bel.block _ HSZ.out).trans HX3.out) 3 rfl⟩ (fun hHeld => ?_)
                            clear hK K
                            refine norm_ (a' := ?_) ?_ ?_
                            rotate_left
                            · show Act.put _ (some 42) _ = _
                              simp only [Act.put, List.setIfInBounds_toArray, List.set_cons_zero, List.set_cons_succ, i64_w, i32_w]
                              rfl
                            exact norm_ (by first | (simp only [putAll, Act.put, List.setIfInBounds_toArray, List.set_cons_zero, List.set_cons_succ]; done) | (simp only [putAll, Act.put, List.setIfInBounds_toArray, List.set_cons_zero, List.set_cons_succ]; rfl)) (hJ0_5_12_25 (.slice p0 q0 r0, .slice p5 q5 r5, _, .pointer (some ⟨pb, 0, none⟩)) _ ⟨⟨⟨_, _, _, rfl⟩, ⟨_, _, _, rfl⟩, ⟨_, _, _, rfl⟩⟩, hN⟩)
                      · skip
                        rintro ⟨a0, a5, a12⟩ wn ⟨hsh, h8_0_5_12⟩
                        obtain ⟨⟨p0, q0, r0, rfl⟩, ⟨p5, q5, r5, rfl⟩, ⟨p12, q12, r12, rfl⟩⟩ := hsh
                        have hHeld := And.intro (cell_blk ((h8_0_5_12.bel.block _ HSZ.out).trans HX3.out) 2 rfl) (cell_blk ((h8_0_5_12.bel.block _ HSZ.out).trans HX3.out) 3 rfl)
                        refine norm_ (a' := ?_) ?_ ?_
                        rotate_left
                        · simp only [putAll, Act.put, List.setIfInBounds_toArray, List.set_cons_zero, List.set_cons_succ]
                          rfl
                        refine two_ (i := 11) (j := 25) (Ni := some 41) (Nj := some 5) #[true, true, true, true, true, true, true, true, true, true, true, true, true, true, true, true, true, false, true, true, true, true, true, false, false, false, false] #[true, true, true, true, true, true, true, true, true, true, true, false, true, true, true, true, true, false, true, true, true, true, true, false, false, true, false] rfl rfl rfl rfl (by kernel_rfl) (by decide) (by decide) (fun K hK => ?_) (fun K hK => ?_)
                        · skip
                          refine step_app rfl _ _ _ rfl sl26 _ _ _ rfl h8_0_5_12.ks _ _ _ (strV (t.keys.drop (n + 1))) rfl (by simp [strV]; try omega) (fun j u hu => (HM3.out.trans (mle_below h8_0_5_12.bel)) _ _ (HKC.out.2 j u hu)) (one_str _) (by have := HK5.out; simp [maxLen]; omega) (by have := HK5.out; simp; omega) h8_0_5_12.sz ?_
                          intro v5 w5 ho5 hg5 hat5
                          have hN := h8_0_5_12.app_k (l2 := t.keys.drop (n + 1)) (by first | exact ho5 | (have e := ho5; simp only [List.length_take, List.length_drop, Nat.min_eq_left (Nat.le_of_lt hn)] at e ⊢; exact e)) hg5 hat5
                          obtain ⟨vp, vq, vr, rfl⟩ := slice_of ho5
                          refine hK.out _ _ ⟨cell_blk ((hN.bel.block _ HSZ.out).trans HX3.out) 2 rfl, cell_blk ((hN.bel.block _ HSZ.out).trans HX3.out) 3 rfl⟩ (fun hHeld => ?_)
                          clear hK K
                          refine norm_ (a' := ?_) ?_ ?_
                          rotate_left
                          · show Act.put _ (some 41) _ = _
                            simp only [Act.put, List.setIfInBounds_toArray, List.set_cons_zero, List.set_cons_succ, i64_w, i32_w]
                            rfl
                          exact norm_ (by first | (simp only [putAll, Act.put, List.setIfInBounds_toArray, List.set_cons_zero, List.set_cons_succ]; done) | (simp only [putAll, Act.put, List.setIfInBounds_toArray, List.set_cons_zero, List.set_cons_succ]; rfl)) (hJ0_5_11_12 (.slice p0 q0 r0, .slice p5 q5 r5, _, .slice p12 q12 r12) _ ⟨⟨⟨_, _, _, rfl⟩, ⟨_, _, _, rfl⟩, ⟨_, _, _, rfl⟩, ⟨_, _, _, rfl⟩⟩, hN⟩)
                        · skip
                          refine value_ (w1 := ?_) (v := ?_) (by rfl) rfl ?_ ?_
                          rotate_left 2
                          · go_simp
                            constructor
                            · rfl
                            · rfl
                          have hN := R8.made_p h8_0_5_12
                          refine hK.out _ _ ⟨cell_blk ((hN.bel.block _ HSZ.out).trans HX3.out) 2 rfl, cell_blk ((hN.bel.block _ HSZ.out).trans HX3.out) 3 rfl⟩ (fun hHeld => ?_)
                          clear hK K
                          refine norm_ (a' := ?_) ?_ ?_
                          rotate_left
                          · show Act.put _ (some 5) _ = _
                            simp only [Act.put, List.setIfInBounds_toArray, List.set_cons_zero, List.set_cons_succ, i64_w, i32_w]
                            rfl
                          exact norm_ (by first | (simp only [putAll, Act.put, List.setIfInBounds_toArray, List.set_cons_zero, List.set_cons_succ]; done) | (simp only [putAll, Act.put, List.setIfInBounds_toArray, List.set_cons_zero, List.set_cons_succ]; rfl)) (hJ0_5_12_25 (.slice p0 q0 r0, .slice p5 q5 r5, .slice p12 q12 r12, _) _ ⟨⟨⟨_, _, _, rfl⟩, ⟨_, _, _, rfl⟩, ⟨_, _, _, rfl⟩⟩, hN⟩)
                    · skip
                      rintro ⟨a0, a5, a11⟩ wn ⟨hsh, h8_0_5_11⟩
                      obtain ⟨⟨p0, q0, r0, rfl⟩, ⟨p5, q5, r5, rfl⟩, ⟨p11, q11, r11, rfl⟩⟩ := hsh
                      have hHeld := And.intro (cell_blk ((h8_0_5_11.bel.block _ HSZ.out).trans HX3.out) 2 rfl) (cell_blk ((h8_0_5_11.bel.block _ HSZ.out).trans HX3.out) 3 rfl)
                      refine norm_ (a' := ?_) ?_ ?_
                      rotate_left
                      · simp only [putAll, Act.put, List.setIfInBounds_toArray, List.set_cons_zero, List.set_cons_succ]
                        rfl
                      refine two_ (i := 12) (j := 25) (Ni := some 42) (Nj := some 5) #[true, true, true, true, true, true, true, true, true, true, true, true, true, true, true, true, true, false, true, true, true, true, true, false, false, false, false] #[true, true, true, true, true, true, true, true, true, true, true, true, false, true, true, true, true, false, true, true, true, true, true, false, false, true, false] rfl rfl rfl rfl (by kernel_rfl) (by decide) (by decide) (fun K hK => ?_) (fun K hK => ?_)
                      · skip
                        refine value_ (w1 := ?_) (v := ?_) (by rfl) rfl ?_ ?_
                        rotate_left 2
                        · go_simp
                          constructor
                          · rfl
                          · rfl
                        have hN := R8.made_l h8_0_5_11
                        refine hK.out _ _ ⟨cell_blk ((hN.bel.block _ HSZ.out).trans HX3.out) 2 rfl, cell_blk ((hN.bel.block _ HSZ.out).trans HX3.out) 3 rfl⟩ (fun hHeld => ?_)
                        clear hK K
                        refine norm_ (a' := ?_) ?_ ?_
                        rotate_left
                        · show Act.put _ (some 42) _ = _
                          simp only [Act.put, List.setIfInBounds_toArray, List.set_cons_zero, List.set_cons_succ, i64_w, i32_w]
                          rfl
                        exact norm_ (by first | (simp only [putAll, Act.put, List.setIfInBounds_toArray, List.set_cons_zero, List.set_cons_succ]; done) | (simp only [putAll, Act.put, List.setIfInBounds_toArray, List.set_cons_zero, List.set_cons_succ]; rfl)) (hJ0_5_11_12 (.slice p0 q0 r0, .slice p5 q5 r5, .slice p11 q11 r11, _) _ ⟨⟨⟨_, _, _, rfl⟩, ⟨_, _, _, rfl⟩, ⟨_, _, _, rfl⟩, ⟨_, _, _, rfl⟩⟩, hN⟩)
                      · skip
                        refine value_ (w1 := ?_) (v := ?_) (by rfl) rfl ?_ ?_
                        rotate_left 2
                        · go_simp
                          constructor
                          · rfl
                          · rfl
                        have hN := R8.made_p h8_0_5_11
                        refine hK.out _ _ ⟨cell_blk ((hN.bel.block _ HSZ.out).trans HX3.out) 2 rfl, cell_blk ((hN.bel.block _ HSZ.out).trans HX3.out) 3 rfl⟩ (fun hHeld => ?_)
                        clear hK K
                        refine norm_ (a' := ?_) ?_ ?_
                        rotate_left
                        · show Act.put _ (some 5) _ = _
                          simp only [Act.put, List.setIfInBounds_toArray, List.set_cons_zero, List.set_cons_succ, i64_w, i32_w]
                          rfl
                        exact norm_ (by first | (simp only [putAll, Act.put, List.setIfInBounds_toArray, List.set_cons_zero, List.set_cons_succ]; done) | (simp only [putAll, Act.put, List.setIfInBounds_toArray, List.set_cons_zero, List.set_cons_succ]; rfl)) (hJ0_5_11_25 (.slice p0 q0 r0, .slice p5 q5 r5, .slice p11 q11 r11, _) _ ⟨⟨⟨_, _, _, rfl⟩, ⟨_, _, _, rfl⟩, ⟨_, _, _, rfl⟩⟩, hN⟩)
                  · skip
                    rintro ⟨a0, a5, a12, a25⟩ wn ⟨hsh, h8_0_5_12_25⟩
                    obtain ⟨⟨p0, q0, r0, rfl⟩, ⟨p5, q5, r5, rfl⟩, ⟨p12, q12, r12, rfl⟩⟩ := hsh
                    obtain ⟨pb, hpb, _⟩ := h8_0_5_12_25.pt rfl
                    subst hpb
                    have hHeld := And.intro (cell_blk ((h8_0_5_12_25.bel.block _ HSZ.out).trans HX3.out) 2 rfl) (cell_blk ((h8_0_5_12_25.bel.block _ HSZ.out).trans HX3.out) 3 rfl)
                    refine norm_ (a' := ?_) ?_ ?_
                    rotate_left
                    · simp only [putAll, Act.put, List.setIfInBounds_toArray, List.set_cons_zero, List.set_cons_succ]
                      rfl
                    refine one_ (i := 11) (N := some 41) #[true, true, true, true, true, true, true, true, true, true, true, true, true, true, true, true, true, false, true, true, true, true, true, false, false, true, false] rfl rfl (by kernel_rfl) (by decide) (fun K hK => ?_)
                    refine step_app rfl _ _ _ rfl sl26 _ _ _ rfl h8_0_5_12_25.ks _ _ _ (strV (t.keys.drop (n + 1))) rfl (by simp [strV]; try omega) (fun j u hu => (HM3.out.trans (mle_below h8_0_5_12_25.bel)) _ _ (HKC.out.2 j u hu)) (one_str _) (by have := HK5.out; simp [maxLen]; omega) (by have := HK5.out; simp; omega) h8_0_5_12_25.sz ?_
                    intro v5 w5 ho5 hg5 hat5
                    have hN := h8_0_5_12_25.app_k (l2 := t.keys.drop (n + 1)) (by first | exact ho5 | (have e := ho5; simp only [List.length_take, List.length_drop, Nat.min_eq_left (Nat.le_of_lt hn)] at e ⊢; exact e)) hg5 hat5
                    obtain ⟨vp, vq, vr, rfl⟩ := slice_of ho5
                    refine hK.out _ _ ⟨cell_blk ((hN.bel.block _ HSZ.out).trans HX3.out) 2 rfl, cell_blk ((hN.bel.block _ HSZ.out).trans HX3.out) 3 rfl⟩ (fun hHeld => ?_)
                    clear hK K
                    refine norm_ (a' := ?_) ?_ ?_
                    rotate_left
                    · show Act.put _ (some 41) _ = _
                      simp only [Act.put, List.setIfInBounds_toArray, List.set_cons_zero, List.set_cons_succ, i64_w, i32_w]
                      rfl
                    exact norm_ (by first | (simp only [putAll, Act.put, List.setIfInBounds_toArray, List.set_cons_zero, List.set_cons_succ]; done) | (simp only [putAll, Act.put, List.setIfInBounds_toArray, List.set_cons_zero, List.set_cons_succ]; rfl)) (hJ0_5_11_12_25 (.slice p0 q0 r0, .slice p5 q5 r5, _, .slice p12 q12 r12, .pointer (some ⟨pb, 0, none⟩)) _ ⟨⟨⟨_, _, _, rfl⟩, ⟨_, _, _, rfl⟩, ⟨_, _, _, rfl⟩, ⟨_, _, _, rfl⟩⟩, hN⟩)
                · skip
                  rintro ⟨a0, a5, a11, a25⟩ wn ⟨hsh, h8_0_5_11_25⟩
                  obtain ⟨⟨p0, q0, r0, rfl⟩, ⟨p5, q5, r5, rfl⟩, ⟨p11, q11, r11, rfl⟩⟩ := hsh
                  obtain ⟨pb, hpb, _⟩ := h8_0_5_11_25.pt rfl
                  subst hpb
                  have hHeld := And.intro (cell_blk ((h8_0_5_11_25.bel.block _ HSZ.out).trans HX3.out) 2 rfl) (cell_blk ((h8_0_5_11_25.bel.block _ HSZ.out).trans HX3.out) 3 rfl)
                  refine norm_ (a' := ?_) ?_ ?_
                  rotate_left
                  · simp only [putAll, Act.put, List.setIfInBounds_toArray, List.set_cons_zero, List.set_cons_succ]
                    rfl
                  refine one_ (i := 12) (N := some 42) #[true, true, true, true, true, true, true, true, true, true, true, true, true, true, true, true, true, false, true, true, true, true, true, false, false, true, false] rfl rfl (by kernel_rfl) (by decide) (fun K hK => ?_)
                  refine value_ (w1 := ?_) (v := ?_) (by rfl) rfl ?_ ?_
                  rotate_left 2
                  · go_simp
                    constructor
                    · rfl
                    · rfl
                  have hN := R8.made_l h8_0_5_11_25
                  refine hK.out _ _ ⟨cell_blk ((hN.bel.block _ HSZ.out).trans HX3.out) 2 rfl, cell_blk ((hN.bel.block _ HSZ.out).trans HX3.out) 3 rfl⟩ (fun hHeld => ?_)
                  clear hK K
                  refine norm_ (a' := ?_) ?_ ?_
                  rotate_left
                  · show Act.put _ (some 42) _ = _
                    simp only [Act.put, List.setIfInBounds_toArray, List.set_cons_zero, List.set_cons_succ, i64_w, i32_w]
                    rfl
                  exact norm_ (by first | (simp only [putAll, Act.put, List.setIfInBounds_toArray, List.set_cons_zero, List.set_cons_succ]; done) | (simp only [putAll, Act.put, List.setIfInBounds_toArray, List.set_cons_zero, List.set_cons_succ]; rfl)) (hJ0_5_11_12_25 (.slice p0 q0 r0, .slice p5 q5 r5, .slice p11 q11 r11, _, .pointer (some ⟨pb, 0, none⟩)) _ ⟨⟨⟨_, _, _, rfl⟩, ⟨_, _, _, rfl⟩, ⟨_, _, _, rfl⟩, ⟨_, _, _, rfl⟩⟩, hN⟩)
              · skip
                rintro ⟨a0, a5, a11, a12⟩ wn ⟨hsh, h8_0_5_11_12⟩
                obtain ⟨⟨p0, q0, r0, rfl⟩, ⟨p5, q5, r5, rfl⟩, ⟨p11, q11, r11, rfl⟩, ⟨p12, q12, r12, rfl⟩⟩ := hsh
                have hHeld := And.intro (cell_blk ((h8_0_5_11_12.bel.block _ HSZ.out).trans HX3.out) 2 rfl) (cell_blk ((h8_0_5_11_12.bel.block _ HSZ.out).trans HX3.out) 3 rfl)
                refine norm_ (a' := ?_) ?_ ?_
                rotate_left
                · simp only [putAll, Act.put, List.setIfInBounds_toArray, List.set_cons_zero, List.set_cons_succ]
                  rfl
                refine two_ (i := 17) (j := 25) (Ni := some 47) (Nj := some 5) #[true, true, true, true, true, true, true, true, true, true, true, true, true, true, true, true, true, true, true, true, true, true, true, false, false, false, false] #[true, true, true, true, true, true, true, true, true, true, true, true, true, true, true, true, true, false, true, true, true, true, true, false, false, true, false] rfl rfl rfl rfl (by kernel_rfl) (by decide) (by decide) (fun K hK => ?_) (fun K hK => ?_)
                · skip
                  refine step_app rfl _ _ _ rfl sl27 _ _ _ rfl h8_0_5_11_12.ls _ _ _ (kc.take n).flatten rfl (HF4.out.1) (fun j u hu => (HM3.out.trans (mle_below h8_0_5_11_12.bel)) _ _ (HLC.out.1 j u hu)) (HO1.out.1) (by have := HKCL.out; have := HK5.out; have := HEQ.out; simp [maxLen]; omega) (by have := HKCL.out; have := HK5.out; have := HEQ.out; simp; omega) h8_0_5_11_12.sz ?_
                  intro v5 w5 ho5 hg5 hat5
                  have hN := h8_0_5_11_12.app_l (l2 := kc.take n) (by rw [HFL.out.1]; exact ho5) hg5 hat5
                  obtain ⟨vp, vq, vr, rfl⟩ := slice_of ho5
                  refine hK.out _ _ ⟨cell_blk ((hN.bel.block _ HSZ.out).trans HX3.out) 2 rfl, cell_blk ((hN.bel.block _ HSZ.out).trans HX3.out) 3 rfl⟩ (fun hHeld => ?_)
                  clear hK K
                  refine norm_ (a' := ?_) ?_ ?_
                  rotate_left
                  · show Act.put _ (some 47) _ = _
                    simp only [Act.put, List.setIfInBounds_toArray, List.set_cons_zero, List.set_cons_succ, i64_w, i32_w]
                    rfl
                  exact norm_ (by first | (simp only [putAll, Act.put, List.setIfInBounds_toArray, List.set_cons_zero, List.set_cons_succ]; done) | (simp only [putAll, Act.put, List.setIfInBounds_toArray, List.set_cons_zero, List.set_cons_succ]; rfl)) (hJ0_5_11_12_17 (.slice p0 q0 r0, .slice p5 q5 r5, .slice p11 q11 r11, .slice p12 q12 r12, _) _ ⟨⟨⟨_, _, _, rfl⟩, ⟨_, _, _, rfl⟩, ⟨_, _, _, rfl⟩, ⟨_, _, _, rfl⟩, ⟨_, _, _, rfl⟩⟩, hN⟩)
                · skip
                  refine value_ (w1 := ?_) (v := ?_) (by rfl) rfl ?_ ?_
                  rotate_left 2
                  · go_simp
                    constructor
                    · rfl
                    · rfl
                  have hN := R8.made_p h8_0_5_11_12
                  refine hK.out _ _ ⟨cell_blk ((hN.bel.block _ HSZ.out).trans HX3.out) 2 rfl, cell_blk ((hN.bel.block _ HSZ.out).trans HX3.out) 3 rfl⟩ (fun hHeld => ?_)
                  clear hK K
                  refine norm_ (a' := ?_) ?_ ?_
                  rotate_left
                  · show Act.put _ (some 5) _ = _
                    simp only [Act.put, List.setIfInBounds_toArray, List.set_cons_zero, List.set_cons_succ, i64_w, i32_w]
                    rfl
                  exact norm_ (by first | (simp only [putAll, Act.put, List.setIfInBounds_toArray, List.set_cons_zero, List.set_cons_succ]; done) | (simp only [putAll, Act.put, List.setIfInBounds_toArray, List.set_cons_zero, List.set_cons_succ]; rfl)) (hJ0_5_11_12_25 (.slice p0 q0 r0, .slice p5 q5 r5, .slice p11 q11 r11, .slice p12 q12 r12, _) _ ⟨⟨⟨_, _, _, rfl⟩, ⟨_, _, _, rfl⟩, ⟨_, _, _, rfl⟩, ⟨_, _, _, rfl⟩⟩, hN⟩)
            · skip
              rintro ⟨a0, a5, a11, a12, a25⟩ wn ⟨hsh, h8_0_5_11_12_25⟩
              obtain ⟨⟨p0, q0, r0, rfl⟩, ⟨p5, q5, r5, rfl⟩, ⟨p11, q11, r11, rfl⟩, ⟨p12, q12, r12, rfl⟩⟩ := hsh
              obtain ⟨pb, hpb, _⟩ := h8_0_5_11_12_25.pt rfl
              subst hpb
              have hHeld := And.intro (cell_blk ((h8_0_5_11_12_25.bel.block _ HSZ.out).trans HX3.out) 2 rfl) (cell_blk ((h8_0_5_11_12_25.bel.block _ HSZ.out).trans HX3.out) 3 rfl)
              refine norm_ (a' := ?_) ?_ ?_
              rotate_left
              · simp only [putAll, Act.put, List.setIfInBounds_toArray, List.set_cons_zero, List.set_cons_succ]
                rfl
              refine one_ (i := 17) (N := some 47) #[true, true, true, true, true, true, true, true, true, true, true, true, true, true, true, true, true, true, true, true, true, true, true, false, false, true, false] rfl rfl (by kernel_rfl) (by decide) (fun K hK => ?_)
              refine step_app rfl _ _ _ rfl sl27 _ _ _ rfl h8_0_5_11_12_25.ls _ _ _ (kc.take n).flatten rfl (HF4.out.1) (fun j u hu => (HM3.out.trans (mle_below h8_0_5_11_12_25.bel)) _ _ (HLC.out.1 j u hu)) (HO1.out.1) (by have := HKCL.out; have := HK5.out; have := HEQ.out; simp [maxLen]; omega) (by have := HKCL.out; have := HK5.out; have := HEQ.out; simp; omega) h8_0_5_11_12_25.sz ?_
              intro v5 w5 ho5 hg5 hat5
              have hN := h8_0_5_11_12_25.app_l (l2 := kc.take n) (by rw [HFL.out.1]; exact ho5) hg5 hat5
              obtain ⟨vp, vq, vr, rfl⟩ := slice_of ho5
              refine hK.out _ _ ⟨cell_blk ((hN.bel.block _ HSZ.out).trans HX3.out) 2 rfl, cell_blk ((hN.bel.block _ HSZ.out).trans HX3.out) 3 rfl⟩ (fun hHeld => ?_)
              clear hK K
              refine norm_ (a' := ?_) ?_ ?_
              rotate_left
              · show Act.put _ (some 47) _ = _
                simp only [Act.put, List.setIfInBounds_toArray, List.set_cons_zero, List.set_cons_succ, i64_w, i32_w]
                rfl
              exact norm_ (by first | (simp only [putAll, Act.put, List.setIfInBounds_toArray, List.set_cons_zero, List.set_cons_succ]; done) | (simp only [putAll, Act.put, List.setIfInBounds_toArray, List.set_cons_zero, List.set_cons_succ]; rfl)) (hJ0_5_11_12_17_25 (.slice p0 q0 r0, .slice p5 q5 r5, .slice p11 q11 r11, .slice p12 q12 r12, _, .pointer (some ⟨pb, 0, none⟩)) _ ⟨⟨⟨_, _, _, rfl⟩, ⟨_, _, _, rfl⟩, ⟨_, _, _, rfl⟩, ⟨_, _, _, rfl⟩, ⟨_, _, _, rfl⟩⟩, hN⟩)
          · skip
            rintro ⟨a0, a5, a11, a12, a17⟩ wn ⟨hsh, h8_0_5_11_12_17⟩
            obtain ⟨⟨p0, q0, r0, rfl⟩, ⟨p5, q5, r5, rfl⟩, ⟨p11, q11, r11, rfl⟩, ⟨p12, q12, r12, rfl⟩, ⟨p17, q17, r17, rfl⟩⟩ := hsh
            have hHeld := And.intro (cell_blk ((h8_0_5_11_12_17.bel.block _ HSZ.out).trans HX3.out) 2 rfl) (cell_blk ((h8_0_5_11_12_17.bel.block _ HSZ.out).trans HX3.out) 3 rfl)
            refine norm_ (a' := ?_) ?_ ?_
            rotate_left
            · simp only [putAll, Act.put, List.setIfInBounds_toArray, List.set_cons_zero, List.set_cons_succ]
              rfl
            refine two_ (i := 23) (j := 25) (Ni := some 53) (Nj := some 5) #[true, true, true, true, true, true, true, true, true, true, true, true, true, true, true, true, true, true, true, true, true, true, true, true, false, false, false] #[true, true, true, true, true, true, true, true, true, true, true, true, true, true, true, true, true, true, true, true, true, true, true, false, false, true, false] rfl rfl rfl rfl (by kernel_rfl) (by decide) (by decide) (fun K hK => ?_) (fun K hK => ?_)
            · skip
              refine step_app rfl _ _ _ rfl sl27 _ _ _ rfl h8_0_5_11_12_17.ls _ _ _ (kc.drop (n + 1)).flatten rfl (HF4.out.2) (fun j u hu => (HM3.out.trans (mle_below h8_0_5_11_12_17.bel)) _ _ (HLC.out.2 j u hu)) (HO1.out.2) (by have := HKCL.out; have := HK5.out; have := HEQ.out; simp [maxLen]; omega) (by have := HKCL.out; have := HK5.out; have := HEQ.out; simp; omega) h8_0_5_11_12_17.sz ?_
              intro v5 w5 ho5 hg5 hat5
              have hN := h8_0_5_11_12_17.app_l (l2 := kc.drop (n + 1)) (by rw [HFL.out.2]; exact ho5) hg5 hat5
              obtain ⟨vp, vq, vr, rfl⟩ := slice_of ho5
              refine hK.out _ _ ⟨cell_blk ((hN.bel.block _ HSZ.out).trans HX3.out) 2 rfl, cell_blk ((hN.bel.block _ HSZ.out).trans HX3.out) 3 rfl⟩ (fun hHeld => ?_)
              clear hK K
              refine norm_ (a' := ?_) ?_ ?_
              rotate_left
              · show Act.put _ (some 53) _ = _
                simp only [Act.put, List.setIfInBounds_toArray, List.set_cons_zero, List.set_cons_succ, i64_w, i32_w]
                rfl
              refine pure_ (i := 24) (N := some 54) (v := ?_) (a' := ?_) #[true, true, true, true, true, true, true, true, true, true, true, true, true, true, true, true, true, true, true, true, true, true, true, true, true, false, false] rfl rfl (by kernel_rfl) (fun _ _ _ h => h) (Or.inl ⟨by rfl, ?_⟩) ?_ ?_
              rotate_left
              · intro w'
                go_simp
                with_reducible rfl
              rotate_left
              · simp only [Act.put, List.setIfInBounds_toArray, List.set_cons_zero, List.set_cons_succ, i64_w, i32_w]
                rfl
              exact norm_ (by first | (simp only [putAll, Act.put, List.setIfInBounds_toArray, List.set_cons_zero, List.set_cons_succ]; done) | (simp only [putAll, Act.put, List.setIfInBounds_toArray, List.set_cons_zero, List.set_cons_succ]; rfl)) (hJ0_5_11_12_17_23 (.slice p0 q0 r0, .slice p5 q5 r5, .slice p11 q11 r11, .slice p12 q12 r12, .slice p17 q17 r17, _) _ ⟨⟨⟨_, _, _, rfl⟩, ⟨_, _, _, rfl⟩, ⟨_, _, _, rfl⟩, ⟨_, _, _, rfl⟩, ⟨_, _, _, rfl⟩, ⟨_, _, _, rfl⟩⟩, hN⟩)
            · skip
              refine value_ (w1 := ?_) (v := ?_) (by rfl) rfl ?_ ?_
              rotate_left 2
              · go_simp
                constructor
                · rfl
                · rfl
              have hN := R8.made_p h8_0_5_11_12_17
              refine hK.out _ _ ⟨cell_blk ((hN.bel.block _ HSZ.out).trans HX3.out) 2 rfl, cell_blk ((hN.bel.block _ HSZ.out).trans HX3.out) 3 rfl⟩ (fun hHeld => ?_)
              clear hK K
              refine norm_ (a' := ?_) ?_ ?_
              rotate_left
              · show Act.put _ (some 5) _ = _
                simp only [Act.put, List.setIfInBounds_toArray, List.set_cons_zero, List.set_cons_succ, i64_w, i32_w]
                rfl
              exact norm_ (by first | (simp only [putAll, Act.put, List.setIfInBounds_toArray, List.set_cons_zero, List.set_cons_succ]; done) | (simp only [putAll, Act.put, List.setIfInBounds_toArray, List.set_cons_zero, List.set_cons_succ]; rfl)) (hJ0_5_11_12_17_25 (.slice p0 q0 r0, .slice p5 q5 r5, .slice p11 q11 r11, .slice p12 q12 r12, .slice p17 q17 r17, _) _ ⟨⟨⟨_, _, _, rfl⟩, ⟨_, _, _, rfl⟩, ⟨_, _, _, rfl⟩, ⟨_, _, _, rfl⟩, ⟨_, _, _, rfl⟩⟩, hN⟩)
        · skip
          rintro ⟨a0, a5, a11, a12, a17, a25⟩ wn ⟨hsh, h8_0_5_11_12_17_25⟩
          obtain ⟨⟨p0, q0, r0, rfl⟩, ⟨p5, q5, r5, rfl⟩, ⟨p11, q11, r11, rfl⟩, ⟨p12, q12, r12, rfl⟩, ⟨p17, q17, r17, rfl⟩⟩ := hsh
          obtain ⟨pb, hpb, _⟩ := h8_0_5_11_12_17_25.pt rfl
          subst hpb
          have hHeld := And.intro (cell_blk ((h8_0_5_11_12_17_25.bel.block _ HSZ.out).trans HX3.out) 2 rfl) (cell_blk ((h8_0_5_11_12_17_25.bel.block _ HSZ.out).trans HX3.out) 3 rfl)
          refine norm_ (a' := ?_) ?_ ?_
          rotate_left
          · simp only [putAll, Act.put, List.setIfInBounds_toArray, List.set_cons_zero, List.set_cons_succ]
            rfl
          refine one_ (i := 23) (N := some 53) #[true, true, true, true, true, true, true, true, true, true, true, true, true, true, true, true, true, true, true, true, true, true, true, true, false, true, false] rfl rfl (by kernel_rfl) (by decide) (fun K hK => ?_)
          refine step_app rfl _ _ _ rfl sl27 _ _ _ rfl h8_0_5_11_12_17_25.ls _ _ _ (kc.drop (n + 1)).flatten rfl (HF4.out.2) (fun j u hu => (HM3.out.trans (mle_below h8_0_5_11_12_17_25.bel)) _ _ (HLC.out.2 j u hu)) (HO1.out.2) (by have := HKCL.out; have := HK5.out; have := HEQ.out; simp [maxLen]; omega) (by have := HKCL.out; have := HK5.out; have := HEQ.out; simp; omega) h8_0_5_11_12_17_25.sz ?_
          intro v5 w5 ho5 hg5 hat5
          have hN := h8_0_5_11_12_17_25.app_l (l2 := kc.drop (n + 1)) (by rw [HFL.out.2]; exact ho5) hg5 hat5
          obtain ⟨vp, vq, vr, rfl⟩ := slice_of ho5
          refine hK.out _ _ ⟨cell_blk ((hN.bel.block _ HSZ.out).trans HX3.out) 2 rfl, cell_blk ((hN.bel.block _ HSZ.out).trans HX3.out) 3 rfl⟩ (fun hHeld => ?_)
          clear hK K
          refine norm_ (a' := ?_) ?_ ?_
          rotate_left
          · show Act.put _ (some 53) _ = _
            simp only [Act.put, List.setIfInBounds_toArray, List.set_cons_zero, List.set_cons_succ, i64_w, i32_w]
            rfl
          refine pure_ (i := 24) (N := some 54) (v := ?_) (a' := ?_) #[true, true, true, true, true, true, true, true, true, true, true, true, true, true, true, true, true, true, true, true, true, true, true, true, true, true, false] rfl rfl (by kernel_rfl) (fun _ _ _ h => h) (Or.inl ⟨by rfl, ?_⟩) ?_ ?_
          rotate_left
          · intro w'
            go_simp
            with_reducible rfl
          rotate_left
          · simp only [Act.put, List.setIfInBounds_toArray, List.set_cons_zero, List.set_cons_succ, i64_w, i32_w]
            rfl
          exact norm_ (by first | (simp only [putAll, Act.put, List.setIfInBounds_toArray, List.set_cons_zero, List.set_cons_succ]; done) | (simp only [putAll, Act.put, List.setIfInBounds_toArray, List.set_cons_zero, List.set_cons_succ]; rfl)) (hJ0_5_11_12_17_23_25 (.slice p0 q0 r0, .slice p5 q5 r5, .slice p11 q11 r11, .slice p12 q12 r12, .slice p17 q17 r17, _, .pointer (some ⟨pb, 0, none⟩)) _ ⟨⟨⟨_, _, _, rfl⟩, ⟨_, _, _, rfl⟩, ⟨_, _, _, rfl⟩, ⟨_, _, _, rfl⟩, ⟨_, _, _, rfl⟩, ⟨_, _, _, rfl⟩⟩, hN⟩)
      · skip
        rintro ⟨a0, a5, a11, a12, a17, a23⟩ wn ⟨hsh, h8_0_5_11_12_17_23⟩
        obtain ⟨⟨p0, q0, r0, rfl⟩, ⟨p5, q5, r5, rfl⟩, ⟨p11, q11, r11, rfl⟩, ⟨p12, q12, r12, rfl⟩, ⟨p17, q17, r17, rfl⟩, ⟨p23, q23, r23, rfl⟩⟩ := hsh
        have hHeld := And.intro (cell_blk ((h8_0_5_11_12_17_23.bel.block _ HSZ.out).trans HX3.out) 2 rfl) (cell_blk ((h8_0_5_11_12_17_23.bel.block _ HSZ.out).trans HX3.out) 3 rfl)
        refine norm_ (a' := ?_) ?_ ?_
        rotate_left
        · simp only [putAll, Act.put, List.setIfInBounds_toArray, List.set_cons_zero, List.set_cons_succ]
          rfl
        refine one_ (i := 25) (N := some 5) #[true, true, true, true, true, true, true, true, true, true, true, true, true, true, true, true, true, true, true, true, true, true, true, true, true, true, false] rfl rfl (by kernel_rfl) (by decide) (fun K hK => ?_)
        refine value_ (w1 := ?_) (v := ?_) (by rfl) rfl ?_ ?_
        rotate_left 2
        · go_simp
          constructor
          · rfl
          · rfl
        have hN := R8.made_p h8_0_5_11_12_17_23
        refine hK.out _ _ ⟨cell_blk ((hN.bel.block _ HSZ.out).trans HX3.out) 2 rfl, cell_blk ((hN.bel.block _ HSZ.out).trans HX3.out) 3 rfl⟩ (fun hHeld => ?_)
        clear hK K
        refine norm_ (a' := ?_) ?_ ?_
        rotate_left
        · show Act.put _ (some 5) _ = _
          simp only [Act.put, List.setIfInBounds_toArray, List.set_cons_zero, List.set_cons_succ, i64_w, i32_w]
          rfl
        exact norm_ (by first | (simp only [putAll, Act.put, List.setIfInBounds_toArray, List.set_cons_zero, List.set_cons_succ]; done) | (simp only [putAll, Act.put, List.setIfInBounds_toArray, List.set_cons_zero, List.set_cons_succ]; rfl)) (hJ0_5_11_12_17_23_25 (.slice p0 q0 r0, .slice p5 q5 r5, .slice p11 q11 r11, .slice p12 q12 r12, .slice p17 q17 r17, .slice p23 q23 r23, _) _ ⟨⟨⟨_, _, _, rfl⟩, ⟨_, _, _, rfl⟩, ⟨_, _, _, rfl⟩, ⟨_, _, _, rfl⟩, ⟨_, _, _, rfl⟩, ⟨_, _, _, rfl⟩⟩, hN⟩)
    rintro ⟨a0, a5, a11, a12, a17, a23, a25⟩ wn ⟨hsh, h8_0_5_11_12_17_23_25⟩
    obtain ⟨⟨p0, q0, r0, rfl⟩, ⟨p5, q5, r5, rfl⟩, ⟨p11, q11, r11, rfl⟩, ⟨p12, q12, r12, rfl⟩, ⟨p17, q17, r17, rfl⟩, ⟨p23, q23, r23, rfl⟩⟩ := hsh
    obtain ⟨pb, hpb, _⟩ := h8_0_5_11_12_17_23_25.pt rfl
    subst hpb
    have hHeld := And.intro (cell_blk ((h8_0_5_11_12_17_23_25.bel.block _ HSZ.out).trans HX3.out) 2 rfl) (cell_blk ((h8_0_5_11_12_17_23_25.bel.block _ HSZ.out).trans HX3.out) 3 rfl)
    refine norm_ (a' := ?_) ?_ ?_
    rotate_left
    · simp only [putAll, Act.put, List.setIfInBounds_toArray, List.set_cons_zero, List.set_cons_succ]
      rfl
    refine last_ (i := 26) (N := none) #[true, true, true, true, true, true, true, true, true, true, true, true, true, true, true, true, true, true, true, true, true, true, true, true, true, true, true] rfl rfl (by kernel_rfl) (by decide) (fun K hK => ?_)
    obtain ⟨pb', e1, e2, e3, e4, e5⟩ := h8_0_5_11_12_17_23_25.pt rfl
    cases e1
    obtain ⟨b0, b1, b2, b3⟩ := cells4 e3
    have bf := froz_blk e3
    refine skip_ (w1 := ?_) (by rfl) rfl ?_ ?_
    rotate_left
    · go_simp
      rfl
    refine hK.out _ _ ?_
    clear hK K
    refine done_ (by kernel_rfl) ?_
    have h8 := h8_0_5_11_12_17_23_25
    obtain ⟨pb2, f1, f2, f3, f4, f5⟩ := h8.pt rfl
    cases f1
    have hG := set4 wn pb (.int .i64 6) (.string ⟨#[]⟩) (.slice p11 q11 r11) (.slice p23 q23 r23)
    have hP := set_blk (set_blk (set_blk (set_blk f3 0 (.int .i64 6)) 1 (.string ⟨#[]⟩)) 2 (.slice p11 q11 r11)) 3 (.slice p23 q23 r23)
    generalize ((((wn.setCell ⟨pb, 0, none⟩ (.int .i64 6)).setCell ⟨pb, 1, none⟩ (.string ⟨#[]⟩)).setCell ⟨pb, 2, none⟩ (.slice p11 q11 r11)).setCell ⟨pb, 3, none⟩ (.slice p23 q23 r23)) = X at hG hP ⊢
    have hXB : Below w3.heap.size w3 X := h8.bel.grown hG h8.sz (fun k e => by cases e; exact f2)
    have HMX := Lib.hid (HM3.out.trans (mle_below hXB))
    have HBX := Lib.hid ((hXB.block _ HSZ.out).trans HX3.out)
    have HPX := Lib.hid hP
    have HWX := Lib.hid (bl_trans HB3.out hXB)
    have hks := rows_keep h8.ks hG (fun k e e2 => f4 (by cases e2; exact e))
    have hls := rows_keep h8.ls hG (fun k e e2 => f5 (by cases e2; exact e))
    obtain ⟨ka, kcap, ekv, klk, krow⟩ := own_rowS hks
    obtain ⟨la, lcap, elv, llk, lrow⟩ := own_rowV (ts := dropAt t.kids n) hls (fun c hc => HK4.out c (dropAt_mem hc)) (by simp [dropAt, HKCL.out]) (fun i h1 h2 => by
      by_cases hi : i < n
      · have e1 : (dropAt kc n)[i] = kc[i]'(by have := HKCL.out; omega) := by simp [dropAt]; rw [List.getElem_append_left (by simp; have := HKCL.out; omega)]; simp
        have e2 : (dropAt t.kids n)[i] = t.kids[i]'(by omega) := by simp [dropAt]; rw [List.getElem_append_left (by simp; omega)]; simp
        rw [e1, e2]
        exact (HKM.out i _ _).mono HMX.out
      · obtain ⟨g1, e1⟩ := dropAt_ge (by have := HKCL.out; omega) h1 hi
        obtain ⟨g2, e2⟩ := dropAt_ge (by omega) h2 hi
        rw [e1, e2]
        exact (HKM.out (i + 1) g1 g2).mono HMX.out)
    cases ekv
    cases elv
    have HMV8 := Lib.hid (MV.close (kd := 6) (tx := ⟨#[]⟩) klk llk krow lrow)
    clear h8 h8_0_5_11_12_17_23_25 f2 f3 f4 f5 hG hP hXB hks hls klk llk krow lrow hHeld
    go_wp2
    refine start_ (n := 11) (S := fun w' => w'.cell? ⟨w.heap.size, 0, none⟩ = some (.int .i64 6) ∧ w'.cell? ⟨w.heap.size, 1, none⟩ = some (.string t.text) ∧ w'.cell? ⟨w.heap.size, 2, none⟩ = some (.slice (some ⟨kb, ko, none⟩) t.keys.length ck) ∧ w'.cell? ⟨w.heap.size, 3, none⟩ = some (.slice (some ⟨qb, qo, none⟩) t.kids.length c1) ∧ w'.cell? ⟨pb, 0, none⟩ = some (.int .i64 6) ∧ w'.cell? ⟨pb, 1, none⟩ = some (.string ⟨#[]⟩) ∧ w'.cell? ⟨pb, 2, none⟩ = some (.slice p11 (dropAt t.keys n).length r11) ∧ w'.cell? ⟨pb, 3, none⟩ = some (.slice p23 (dropAt t.kids n).length r23)) (ds := []) #[false, false, false, false, false, false, false, false, false, false, false] (by kernel_rfl) rfl rfl ⟨cell_blk HBX.out 0 rfl, cell_blk HBX.out 1 rfl, cell_blk HBX.out 2 rfl, cell_blk HBX.out 3 rfl, cell_blk HPX.out 0 rfl, cell_blk HPX.out 1 rfl, cell_blk HPX.out 2 rfl, cell_blk HPX.out 3 rfl⟩ (fun hHeld => ?_)
    refine take_ (i := 0) (N := some 55) (v := ?_) (a' := ?_) #[true, false, false, false, false, false, false, false, false, false, false] rfl rfl (by kernel_rfl) (fun _ _ _ h => h) (Or.inl ⟨by rfl, ?_⟩) hHeld ?_ ?_
    rotate_left
    · rintro w' ⟨s0, s1, s2, s3, s4, s5, s6, s7⟩
      go_simp
      with_reducible rfl
    rotate_left
    · simp only [Act.put, List.setIfInBounds_toArray, List.set_cons_zero, List.set_cons_succ, i64_w, i32_w]
      rfl
    refine take_ (i := 2) (N := some 57) (v := ?_) (a' := ?_) #[true, false, true, false, false, false, false, false, false, false, false] rfl rfl (by kernel_rfl) (fun _ _ _ h => h) (Or.inl ⟨by rfl, ?_⟩) hHeld ?_ ?_
    rotate_left
    · rintro w' ⟨s0, s1, s2, s3, s4, s5, s6, s7⟩
      go_simp
      with_reducible rfl
    rotate_left
    · simp only [Act.put, List.setIfInBounds_toArray, List.set_cons_zero, List.set_cons_succ, i64_w, i32_w]
      rfl
    refine one_ (i := 1) (N := some 56) #[true, true, true, false, false, false, false, false, false, false, false] rfl rfl (by kernel_rfl) (by decide) (fun K hK => ?_)
    refine goes_ Tryz.func14 (by kernel_rfl) rfl #[.agg #[.int .i64 6, .string ⟨#[]⟩, .slice p11 (dropAt t.keys n).length r11, .slice p23 (dropAt t.kids n).length r23]] (by rfl) rfl rfl (by simp only [List.map_toArray, List.map_cons, List.map_nil]; rfl) ?_
    with_reducible refine (value_any (missV t n) X.cell? _ _ _ _ _ _ _ _ _ (bd_miss HB.out n) HMV8.out (mle_drew (MLe.refl _))).mono ?_
    rintro e w4 ⟨kd4, tx4, ak4, nk4, ck4, a14, n14, c14, rfl, hmv4, hb4⟩
    refine ⟨_, rfl, ?_⟩
    have hX4 := bl_heap hb4 HBX.out
    have hP4 := bl_heap hb4 HPX.out
    refine hK.out _ _ ⟨cell_blk hX4 0 rfl, cell_blk hX4 1 rfl, cell_blk hX4 2 rfl, cell_blk hX4 3 rfl, cell_blk hP4 0 rfl, cell_blk hP4 1 rfl, cell_blk hP4 2 rfl, cell_blk hP4 3 rfl⟩ (fun hHeld => ?_)
    clear hK K
    refine norm_ (a' := ?_) ?_ ?_
    rotate_left
    · show Act.put _ (some 56) _ = _
      simp only [Act.put, List.setIfInBounds_toArray, List.set_cons_zero, List.set_cons_succ, i64_w, i32_w]
      rfl
    refine one_ (i := 3) (N := some 58) #[true, true, true, true, false, false, false, false, false, false, false] rfl rfl (by kernel_rfl) (by decide) (fun K hK => ?_)
    refine goes_ Tryz.func29 (by kernel_rfl) rfl #[.agg #[.int .i64 6, .string t.text, .slice (some ⟨kb, ko, none⟩) t.keys.length ck, .slice (some ⟨qb, qo, none⟩) t.kids.length c1]] (by rfl) rfl rfl (by simp only [List.map_toArray, List.map_cons, List.map_nil]; rfl) ?_
    with_reducible refine (tof_any HPT.out HW5.out HV.out ((mle_drew HMX.out).trans (mle_below hb4))).mono ?_
    rintro e w5 ⟨ak5, nk5, ck5, a15, n15, c15, a25, n25, c25, rfl, hmv5, hb5⟩
    refine ⟨_, rfl, ?_⟩
    have hX5 := bl_heap hb5 hX4
    have hP5 := bl_heap hb5 hP4
    refine hK.out _ _ ⟨cell_blk hX5 0 rfl, cell_blk hX5 1 rfl, cell_blk hX5 2 rfl, cell_blk hX5 3 rfl, cell_blk hP5 0 rfl, cell_blk hP5 1 rfl, cell_blk hP5 2 rfl, cell_blk hP5 3 rfl⟩ (fun hHeld => ?_)
    clear hK K
    refine norm_ (a' := ?_) ?_ ?_
    rotate_left
    · show Act.put _ (some 58) _ = _
      simp only [Act.put, List.setIfInBounds_toArray, List.set_cons_zero, List.set_cons_succ, i64_w, i32_w]
      rfl
    refine one_ (i := 4) (N := some 59) #[true, true, true, true, true, false, false, false, false, false, false] rfl rfl (by kernel_rfl) (by decide) (fun K hK => ?_)
    refine goes_ Tryz.func20 (by kernel_rfl) rfl #[.agg #[.int .i64 (tyOf t).kind, .string ⟨#[]⟩, .string ⟨#[]⟩, .slice ak5 nk5 ck5, .slice a15 n15 c15, .slice a25 n25 c25]] (by rfl) rfl rfl (by simp only [List.map_toArray, List.map_cons, List.map_nil]; rfl) ?_
    with_reducible refine (given_any (toI (tyOf t)) _ _ _ _ _ _ _ _ _ _ _ _ _ w5 (bdI_toI _ (Nat.le_trans HWS.out (by decide))) hmv5 (fr_le (mle_m0 _))).mono ?_
    rintro e w6 ⟨kd6, ak6, nk6, ck6, a16, n16, c16, a26, n26, c26, rfl, hmv6, hb6⟩
    refine ⟨_, rfl, ?_⟩
    have hX6 := bl_heap hb6 hX5
    have hP6 := bl_heap hb6 hP5
    refine hK.out _ _ ⟨cell_blk hX6 0 rfl, cell_blk hX6 1 rfl, cell_blk hX6 2 rfl, cell_blk hX6 3 rfl, cell_blk hP6 0 rfl, cell_blk hP6 1 rfl, cell_blk hP6 2 rfl, cell_blk hP6 3 rfl⟩ (fun hHeld => ?_)
    clear hK K
    refine norm_ (a' := ?_) ?_ ?_
    rotate_left
    · show Act.put _ (some 59) _ = _
      simp only [Act.put, List.setIfInBounds_toArray, List.set_cons_zero, List.set_cons_succ, i64_w, i32_w]
      rfl
    refine one_ (i := 5) (N := some 60) #[true, true, true, true, true, true, false, false, false, false, false] rfl rfl (by kernel_rfl) (by decide) (fun K hK => ?_)
    refine goes_ Tryz.func15 (by kernel_rfl) rfl #[.agg #[.int .i64 kd4, .string tx4, .slice ak4 nk4 ck4, .slice a14 n14 c14], .agg #[.int .i64 kd6, .slice ak6 nk6 ck6, .slice a16 n16 c16, .slice a26 n26 c26]] (by rfl) rfl rfl (by simp only [List.map_toArray, List.map_cons, List.map_nil]; rfl) ?_
    with_reducible refine (in_no (tyOf t) (valOf (missV t n)) w6.cell? (not_in_miss HPT.out EK.out.symm hn) (wt_tyOf t HPT.out) (wv_miss HPT.out EK.out.symm n) (hmv4.mono ((fr_le ((mle_drew (MLe.refl X.cell?)).trans (mle_below hb4))).trans ((mle_below hb5).trans (mle_below hb6)))) (by have h := hmv6; rw [given_toI (Nat.le_trans HWS.out (by decide))] at h; exact h.mono (fr_le (((fr_le (mle_m0 _))).trans (mle_below hb6)))) (MLe.refl _)).mono ?_
    rintro e w7 ⟨rfl, hg7⟩
    refine ⟨_, rfl, ?_⟩
    have hX7 := bl_heap hg7.below hX6
    have hP7 := bl_heap hg7.below hP6
    refine hK.out _ _ ⟨cell_blk hX7 0 rfl, cell_blk hX7 1 rfl, cell_blk hX7 2 rfl, cell_blk hX7 3 rfl, cell_blk hP7 0 rfl, cell_blk hP7 1 rfl, cell_blk hP7 2 rfl, cell_blk hP7 3 rfl⟩ (fun hHeld => ?_)
    clear hK K
    refine norm_ (a' := ?_) ?_ ?_
    rotate_left
    · show Act.put _ (some 60) _ = _
      simp only [Act.put, List.setIfInBounds_toArray, List.set_cons_zero, List.set_cons_succ, i64_w, i32_w]
      rfl
    refine pure_ (i := 6) (N := some 61) (v := ?_) (a' := ?_) #[true, true, true, true, true, true, true, false, false, false, false] rfl rfl (by kernel_rfl) (fun _ _ _ h => h) (Or.inl ⟨by rfl, ?_⟩) ?_ ?_
    rotate_left
    · intro w'
      go_simp
      with_reducible rfl
    rotate_left
    · simp only [Act.put, List.setIfInBounds_toArray, List.set_cons_zero, List.set_cons_succ, i64_w, i32_w]
      rfl
    refine pure_ (i := 7) (N := some 62) (v := ?_) (a' := ?_) #[true, true, true, true, true, true, true, true, false, false, false] rfl rfl (by kernel_rfl) (fun _ _ _ h => h) (Or.inl ⟨by rfl, ?_⟩) ?_ ?_
    rotate_left
    · intro w'
      go_simp
      with_reducible rfl
    rotate_left
    · simp only [Act.put, List.setIfInBounds_toArray, List.set_cons_zero, List.set_cons_succ, i64_w, i32_w]
      rfl
    refine one_ (i := 8) (N := some 63) #[true, true, true, true, true, true, true, true, true, false, false] rfl rfl (by kernel_rfl) (by decide) (fun K hK => ?_)
    refine goes_ Tryz.func17 (by kernel_rfl) rfl #[] (by rfl) rfl rfl (by simp only [List.map_toArray, List.map_cons, List.map_nil]) ?_
    with_reducible refine (works_any w7).mono ?_
    rintro e w8 ⟨rfl, hg8⟩
    refine ⟨_, rfl, ?_⟩
    have hX8 := bl_heap hg8.below hX7
    have hP8 := bl_heap hg8.below hP7
    refine hK.out _ _ ⟨cell_blk hX8 0 rfl, cell_blk hX8 1 rfl, cell_blk hX8 2 rfl, cell_blk hX8 3 rfl, cell_blk hP8 0 rfl, cell_blk hP8 1 rfl, cell_blk hP8 2 rfl, cell_blk hP8 3 rfl⟩ (fun hHeld => ?_)
    clear hK K
    refine norm_ (a' := ?_) ?_ ?_
    rotate_left
    · show Act.put _ (some 63) _ = _
      simp only [Act.put, List.setIfInBounds_toArray, List.set_cons_zero, List.set_cons_succ, i64_w, i32_w]
      rfl
    refine pure_ (i := 9) (N := some 64) (v := ?_) (a' := ?_) #[true, true, true, true, true, true, true, true, true, true, false] rfl rfl (by kernel_rfl) (fun _ _ _ h => h) (Or.inl ⟨by rfl, ?_⟩) ?_ ?_
    rotate_left
    · intro w'
      go_simp
      with_reducible rfl
    rotate_left
    · simp only [Act.put, List.setIfInBounds_toArray, List.set_cons_zero, List.set_cons_succ, i64_w, i32_w]
      rfl
    refine pure_ (i := 10) (N := some 4) (v := ?_) (a' := ?_) #[true, true, true, true, true, true, true, true, true, true, true] rfl rfl (by kernel_rfl) (fun _ _ _ h => h) (Or.inl ⟨by rfl, ?_⟩) ?_ ?_
    rotate_left
    · intro w'
      go_simp
      with_reducible rfl
    rotate_left
    · simp only [Act.put, List.setIfInBounds_toArray, List.set_cons_zero, List.set_cons_succ, i64_w, i32_w]
      rfl
    refine done_ (by kernel_rfl) ?_
    go_wp2
    go_ret
    exact ⟨rfl, bl_trans (bl_trans (bl_trans (bl_trans (bl_trans HWX.out.drew hb4) hb5) hb6) hg7.below) hg8.below⟩
end Go.Proofs.YtaglgokeejjagaaGreat
