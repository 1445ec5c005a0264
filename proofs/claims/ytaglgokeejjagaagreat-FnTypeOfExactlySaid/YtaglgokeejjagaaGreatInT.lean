/- 'In' says whether a type has a value. -/
import Derived.Test.YtaglgokeejjagaaGreatOwn
import Derived.Test.YtaglgokeejjagaaGreatPureIn
import Derived.Test.YtaglgokeejjagaaGreatItems
import Derived.Test.YtaglgokeejjagaaGreatProps
namespace Go.Proofs.YtaglgokeejjagaaGreat
set_option linter.unusedVariables false
set_option linter.unusedSimpArgs false
open Go.RowKit Go.Sort

theorem InC.yes {t : ST} {v : Vl} {w w' : World} (h : InP t v) (g : Gr w w') : InC t v w (.returned (.bool true)) w' := ⟨by rw [inT_true h], g⟩
theorem InC.no {t : ST} {v : Vl} {w w' : World} (h : ¬ InP t v) (g : Gr w w') : InC t v w (.returned (.bool false)) w' := ⟨by rw [inT_false h], g⟩
theorem InC.of {t : ST} {v : Vl} {w w' : World} {b : Bool} {P : Prop} (h : b = true ↔ P) (e : InP t v ↔ P) (g : Gr w w') : InC t v w (.returned (.bool b)) w' := by
  cases b
  · exact .no (fun h2 => by have := h.2 (e.1 h2); cases this) g
  · exact .yes (e.2 (h.1 rfl)) g

section
variable {t : ST} {v : Vl} {m : Mem} {akv : Option Addr} {ckv : Nat} {a1v : Option Addr} {c1v : Nat} {ak : Option Addr} {ck : Nat} {a1 : Option Addr} {c1 : Nat} {a2 : Option Addr} {c2 : Nat} {w : World}

set_option maxHeartbeats 2000000 in
set_option maxRecDepth 100000 in
theorem in_1 {kd : Int} (hk : kd = 1) (ht : t.kind = kd) {nk n1 n2 nkv n1v : Nat} {tx : ByteArray} : 
    Calls Tryz.prog 15 #[.agg #[.int .i64 v.kind, .string tx, .slice akv nkv ckv, .slice a1v n1v c1v], .agg #[.int .i64 kd, .slice ak nk ck, .slice a1 n1 c1, .slice a2 n2 c2]] w (InC t v w) := by
  have HI := Lib.hid (inP_null (v := v) (ht.trans hk))
  clear ht
  subst hk
  by_cases h : v.kind = 0
  · have HH := Lib.hid h
    have f : (v.kind == 0) = true := by rw [beq_iff_eq]; exact h
    clear h
    go_enter Tryz.func15, Tryz.ntmps15
    go_wp2
    go_ret
    exact InC.yes (HI.out.2 HH.out) (((Gr.refl _).alloc _).alloc _)
  · have HH := Lib.hid h
    have f : (v.kind == 0) = false := by rw [beq_eq_false_iff_ne]; exact h
    clear h
    go_enter Tryz.func15, Tryz.ntmps15
    go_wp2
    go_ret
    exact InC.no (fun h => HH.out (HI.out.1 h)) (((Gr.refl _).alloc _).alloc _)

set_option maxHeartbeats 2000000 in
set_option maxRecDepth 100000 in
theorem in_2 {kd : Int} (hk : kd = 2) (ht : t.kind = kd) {nk n1 n2 nkv n1v : Nat} {tx : ByteArray} : 
    Calls Tryz.prog 15 #[.agg #[.int .i64 v.kind, .string tx, .slice akv nkv ckv, .slice a1v n1v c1v], .agg #[.int .i64 kd, .slice ak nk ck, .slice a1 n1 c1, .slice a2 n2 c2]] w (InC t v w) := by
  have HI := Lib.hid (inP_bool (v := v) (ht.trans hk))
  clear ht
  subst hk
  by_cases h : v.kind = 1
  · have HH := Lib.hid h
    have f : (v.kind == 1) = true := by rw [beq_iff_eq]; exact h
    clear h
    go_enter Tryz.func15, Tryz.ntmps15
    go_wp2
    go_ret
    exact InC.yes (HI.out.2 (.inl HH.out)) (((Gr.refl _).alloc _).alloc _)
  · have HH := Lib.hid h
    have f : (v.kind == 1) = false := by rw [beq_eq_false_iff_ne]; exact h
    clear h
    by_cases h : v.kind = 2
    · have HH := Lib.hid h
      have f : (v.kind == 2) = true := by rw [beq_iff_eq]; exact h
      clear h
      go_enter Tryz.func15, Tryz.ntmps15
      go_wp2
      go_ret
      exact InC.yes (HI.out.2 (.inr HH.out)) (((Gr.refl _).alloc _).alloc _)
    · have HH2 := Lib.hid h
      have f : (v.kind == 2) = false := by rw [beq_eq_false_iff_ne]; exact h
      clear h
      go_enter Tryz.func15, Tryz.ntmps15
      go_wp2
      go_ret
      exact InC.no (fun h => (HI.out.1 h).elim HH.out HH2.out) (((Gr.refl _).alloc _).alloc _)

set_option maxHeartbeats 2000000 in
set_option maxRecDepth 100000 in
theorem in_3 {kd : Int} (hk : kd = 3) (ht : t.kind = kd) {nk n1 n2 nkv n1v : Nat} {tx : ByteArray} : 
    Calls Tryz.prog 15 #[.agg #[.int .i64 v.kind, .string tx, .slice akv nkv ckv, .slice a1v n1v c1v], .agg #[.int .i64 kd, .slice ak nk ck, .slice a1 n1 c1, .slice a2 n2 c2]] w (InC t v w) := by
  have HI := Lib.hid (inP_num (v := v) (ht.trans hk))
  clear ht
  subst hk
  by_cases h : v.kind = 3
  · have HH := Lib.hid h
    have f : (v.kind == 3) = true := by rw [beq_iff_eq]; exact h
    clear h
    go_enter Tryz.func15, Tryz.ntmps15
    go_wp2
    go_ret
    exact InC.yes (HI.out.2 HH.out) (((Gr.refl _).alloc _).alloc _)
  · have HH := Lib.hid h
    have f : (v.kind == 3) = false := by rw [beq_eq_false_iff_ne]; exact h
    clear h
    go_enter Tryz.func15, Tryz.ntmps15
    go_wp2
    go_ret
    exact InC.no (fun h => HH.out (HI.out.1 h)) (((Gr.refl _).alloc _).alloc _)

set_option maxHeartbeats 2000000 in
set_option maxRecDepth 100000 in
theorem in_4 {kd : Int} (hk : kd = 4) (ht : t.kind = kd) {nk n1 n2 nkv n1v : Nat} {tx : ByteArray} : 
    Calls Tryz.prog 15 #[.agg #[.int .i64 v.kind, .string tx, .slice akv nkv ckv, .slice a1v n1v c1v], .agg #[.int .i64 kd, .slice ak nk ck, .slice a1 n1 c1, .slice a2 n2 c2]] w (InC t v w) := by
  have HI := Lib.hid (inP_str (v := v) (ht.trans hk))
  clear ht
  subst hk
  by_cases h : v.kind = 4
  · have HH := Lib.hid h
    have f : (v.kind == 4) = true := by rw [beq_iff_eq]; exact h
    clear h
    go_enter Tryz.func15, Tryz.ntmps15
    go_wp2
    go_ret
    exact InC.yes (HI.out.2 HH.out) (((Gr.refl _).alloc _).alloc _)
  · have HH := Lib.hid h
    have f : (v.kind == 4) = false := by rw [beq_eq_false_iff_ne]; exact h
    clear h
    go_enter Tryz.func15, Tryz.ntmps15
    go_wp2
    go_ret
    exact InC.no (fun h => HH.out (HI.out.1 h)) (((Gr.refl _).alloc _).alloc _)

set_option maxHeartbeats 2000000 in
set_option maxRecDepth 100000 in
theorem in_5 {kd kv : Int} (hk : kd = 5) (ht : t.kind = kd) (hkv : v.kind = kv) {nk n1 n2 nkv n1v : Nat} {tx : ByteArray} 
    (HC : Hid (∀ (W : World), MLe w.cell? W.cell? → Calls Tryz.prog 40 #[.agg #[.int .i64 kv, .string tx, .slice akv nkv ckv, .slice a1v n1v c1v], .agg #[.int .i64 5, .slice ak nk ck, .slice a1 n1 c1, .slice a2 n2 c2]] W (ItC (ItemsP t v) W))) :
    Calls Tryz.prog 15 #[.agg #[.int .i64 kv, .string tx, .slice akv nkv ckv, .slice a1v n1v c1v], .agg #[.int .i64 kd, .slice ak nk ck, .slice a1 n1 c1, .slice a2 n2 c2]] w (InC t v w) := by
  have HI := Lib.hid (inP_arr (v := v) (ht.trans hk))
  clear ht
  subst hk
  have HKV := Lib.hid hkv
  clear hkv
  by_cases h : kv = 5
  · subst h
    go_enter Tryz.func15, Tryz.ntmps15
    go_wp2_with (go_at_call 40; refine (HC.out _ (((Gr.refl _).alloc _).alloc _).mle).mono ?_; rintro e w2 ⟨b, rfl, hb, g⟩)
    go_ret
    exact InC.of hb (HI.out.trans ⟨fun h => h.2, fun h => ⟨HKV.out, h⟩⟩) ((((Gr.refl _).alloc _).alloc _).trans g)
  · have HH := Lib.hid h
    have f : (kv == 5) = false := by rw [beq_eq_false_iff_ne]; exact h
    clear h
    go_enter Tryz.func15, Tryz.ntmps15
    go_wp2
    go_ret
    exact InC.no (fun h => HH.out (HKV.out.symm.trans (HI.out.1 h).1)) (((Gr.refl _).alloc _).alloc _)

set_option maxHeartbeats 2000000 in
set_option maxRecDepth 100000 in
theorem in_6 {kd kv : Int} (hk : kd = 6) (ht : t.kind = kd) (hkv : v.kind = kv) {nk n1 n2 nkv n1v : Nat} {tx : ByteArray} 
    (HC : Hid (∀ (W : World), MLe w.cell? W.cell? → Calls Tryz.prog 41 #[.agg #[.int .i64 kv, .string tx, .slice akv nkv ckv, .slice a1v n1v c1v], .agg #[.int .i64 6, .slice ak nk ck, .slice a1 n1 c1, .slice a2 n2 c2]] W (ItC (PropsP t v) W))) :
    Calls Tryz.prog 15 #[.agg #[.int .i64 kv, .string tx, .slice akv nkv ckv, .slice a1v n1v c1v], .agg #[.int .i64 kd, .slice ak nk ck, .slice a1 n1 c1, .slice a2 n2 c2]] w (InC t v w) := by
  have HI := Lib.hid (inP_obj (v := v) (ht.trans hk))
  clear ht
  subst hk
  have HKV := Lib.hid hkv
  clear hkv
  by_cases h : kv = 6
  · subst h
    go_enter Tryz.func15, Tryz.ntmps15
    go_wp2_with (go_at_call 41; refine (HC.out _ (((Gr.refl _).alloc _).alloc _).mle).mono ?_; rintro e w2 ⟨b, rfl, hb, g⟩)
    go_ret
    exact InC.of hb (HI.out.trans ⟨fun h => h.2, fun h => ⟨HKV.out, h⟩⟩) ((((Gr.refl _).alloc _).alloc _).trans g)
  · have HH := Lib.hid h
    have f : (kv == 6) = false := by rw [beq_eq_false_iff_ne]; exact h
    clear h
    go_enter Tryz.func15, Tryz.ntmps15
    go_wp2
    go_ret
    exact InC.no (fun h => HH.out (HKV.out.symm.trans (HI.out.1 h).1)) (((Gr.refl _).alloc _).alloc _)

set_option maxHeartbeats 2000000 in
set_option maxRecDepth 100000 in
theorem in_8 {kd : Int} (hk : kd = 8) (ht : t.kind = kd) (hwv : Wv v) (hwt : Wt t) (IH : Hid (∀ d, SizeOf.sizeOf d < SizeOf.sizeOf t → InOk d))
    (hv : MV m (vlCells v.kind v.text akv v.keys.length ckv a1v v.kids.length c1v) v) (hr : RowST m a1 t.kids) (hl : lenOk t.kids.length c1) (hm : MLe m w.cell?) {nk n2 : Nat} :
    Calls Tryz.prog 15 #[.agg #[.int .i64 v.kind, .string v.text, .slice akv v.keys.length ckv, .slice a1v v.kids.length c1v], .agg #[.int .i64 kd, .slice ak nk ck, .slice a1 t.kids.length c1, .slice a2 n2 c2]] w (InC t v w) := by
  have HI := Lib.hid (inP_any (v := v) (ht.trans hk))
  obtain ⟨l1, l2⟩ := hl
  clear ht
  subst hk
  have HV := Lib.hid hv
  have H1 := Lib.hid hr
  have HM := Lib.hid hm
  have HT := Lib.hid hwt.out
  have HWV := Lib.hid hwv
  clear hv hr hm hwt hwv
  by_cases h0 : t.kids.length ≤ 0
  · have f : (t.kids.length == 0) = true := by rw [beq_iff_eq]; omega
    have f2 : ((t.kids.length : Int) == 0) = true := by rw [beq_iff_eq]; omega
    have HH : Hid (t.kids.length = 0) := Lib.hid (by omega)
    go_enter Tryz.func15, Tryz.ntmps15
    go_wp2
    refine wp_loop_once ?_
    go_wp2
    go_ret
    exact InC.yes (HI.out.2 (.inl HH.out)) (((Gr.refl _).alloc _).alloc _)
  · have h1 : 0 < t.kids.length := by omega
    have f : (t.kids.length == 0) = false := by rw [beq_eq_false_iff_ne]; omega
    have f2 : ((t.kids.length : Int) == 0) = false := by rw [beq_eq_false_iff_ne]; omega
    clear h0
    go_enter Tryz.func15, Tryz.ntmps15
    go_wp2
    go_loopw [59] (fun i wr => ∃ k : Nat, k ≤ t.kids.length ∧ i = .int .i64 k ∧ Hid (
      wr.heap[w.heap.size]? = some (.cells #[.int .i64 v.kind, .string v.text, .slice akv v.keys.length ckv, .slice a1v v.kids.length c1v] 36 (0, 0)) ∧
      wr.heap[w.heap.size + 1]? = some (.cells #[.int .i64 8, .slice ak nk ck, .slice a1 t.kids.length c1, .slice a2 n2 c2] 42 (0, 0)) ∧ Gr w wr ∧ (∀ i (h : i < t.kids.length), i < k → ¬ InP t.kids[i] v))) (fun i _ => t.kids.length - (intOf i).toNat)
    case atStart => exact ⟨0, Nat.zero_le _, rfl, al_old (al_new rfl), al_new (by simp), ((Gr.refl _).alloc _).alloc _, fun j _ h => absurd h (Nat.not_lt_zero _)⟩
    case round =>
      obtain ⟨k, hkn, rfl, hI⟩ := hrel
      have hX := hI.out.1
      have hY := hI.out.2.1
      have HGR := Lib.hid hI.out.2.2.1
      have hsz : w.heap.size + 1 < wr.heap.size := lt_blk hY
      obtain ⟨x0, x1, x2, x3⟩ := cells4 hX
      obtain ⟨y0, y1, y2, y3⟩ := cells4 hY
      have HX := Lib.hid hX
      have HY := Lib.hid hY
      clear hX hY
      by_cases hlt : k < t.kids.length
      · have hm1 := HM.out.trans hI.out.2.2.1.mle
        have HM1 := Lib.hid hm1
        obtain ⟨b2, off2, kd2, ak2, nk2, ck2, a12, n12, c12, a22, n22, c22, rfl, z0, z1, z2, z3, hkt⟩ := H1.out.at hlt
        replace z0 := hm1 _ _ z0
        replace z1 := hm1 _ _ z1
        replace z2 := hm1 _ _ z2
        replace z3 := hm1 _ _ z3
        have HKT := Lib.hid hkt
        have HTk := Lib.hid (HT.out.2.2.1 _ (List.getElem_mem hlt))
        have HIN := Lib.hid (IH.out t.kids[k] (ST.lt_kid' (List.getElem_mem hlt)))
        clear hkt hm1
        have hs0 : w.heap.size < wr.heap.size := by omega
        have c0 : ∀ o, (wr.alloc o).cell? ⟨w.heap.size, 0, none⟩ = some (.int .i64 v.kind) := fun o => ((Gr.refl wr).alloc o).cell x0
        have c1' : ∀ o, (wr.alloc o).cell? ⟨w.heap.size, 1, none⟩ = some (.string v.text) := fun o => ((Gr.refl wr).alloc o).cell x1
        have c2' : ∀ o, (wr.alloc o).cell? ⟨w.heap.size, 2, none⟩ = some (.slice akv v.keys.length ckv) := fun o => ((Gr.refl wr).alloc o).cell x2
        have c3' : ∀ o, (wr.alloc o).cell? ⟨w.heap.size, 3, none⟩ = some (.slice a1v v.kids.length c1v) := fun o => ((Gr.refl wr).alloc o).cell x3
        by_cases hpk : InP t.kids[k] v
        · have hp := Lib.hid (inT_true hpk)
          go_wp2_with (go_at_call 15; refine (HIN.out _ m _ _ _ _ _ _ _ _ _ _ _ _ _ _ _ _ _ _ _ HTk.out HWV.out HV.out HKT.out (HM1.out.trans ((Gr.refl _).alloc _).mle)).mono ?_; rintro e w2 ⟨he, g2⟩; rw [hp.out] at he; subst he)
          go_ret
          exact InC.yes (HI.out.2 (.inr ⟨k, hlt, hpk⟩)) ((HGR.out.alloc _).trans g2)
        · have hp := Lib.hid (inT_false hpk)
          go_wp2_with (go_at_call 15; refine (HIN.out _ m _ _ _ _ _ _ _ _ _ _ _ _ _ _ _ _ _ _ _ HTk.out HWV.out HV.out HKT.out (HM1.out.trans ((Gr.refl _).alloc _).mle)).mono ?_; rintro e w2 ⟨he, g2⟩; rw [hp.out] at he; subst he)
          go_roundw
          case rel =>
            refine ⟨k + 1, by omega, by go_num, (g2.block (lt_blk (al_old HX.out))).trans (al_old HX.out), (g2.block (lt_blk (al_old HY.out))).trans (al_old HY.out), (HGR.out.alloc _).trans g2, ?_⟩
            intro j hj hjk
            by_cases e : j = k
            · subst e; exact hpk
            · exact hI.out.2.2.2 j hj (by omega)
          case measure => simp [intOf]; omega
      · have HQ : Hid (¬ InP t v) := Lib.hid (fun h => by
          rcases HI.out.1 h with h | ⟨i, h, h2⟩
          · omega
          · exact hI.out.2.2.2 i h (by omega) h2)
        go_wp2
        go_ret
        exact InC.no HQ.out HGR.out

set_option maxHeartbeats 2000000 in
set_option maxRecDepth 100000 in
theorem in_0 {kd : Int} (hk : ¬ (1 ≤ kd ∧ kd ≤ 6) ∧ kd ≠ 8) (h10 : kd ≠ 10) (ht : t.kind = kd) {nk n1 n2 nkv n1v : Nat} {tx : ByteArray} {kv : Int} : 
    Calls Tryz.prog 15 #[.agg #[.int .i64 kv, .string tx, .slice akv nkv ckv, .slice a1v n1v c1v], .agg #[.int .i64 kd, .slice ak nk ck, .slice a1 n1 c1, .slice a2 n2 c2]] w (InC t v w) := by
  have HI := Lib.hid (inP_none (v := v) (ht ▸ hk))
  clear ht
  have f1 : (kd == 1) = false := by rw [beq_eq_false_iff_ne]; omega
  have f2 : (kd == 2) = false := by rw [beq_eq_false_iff_ne]; omega
  have f3 : (kd == 3) = false := by rw [beq_eq_false_iff_ne]; omega
  have f4 : (kd == 4) = false := by rw [beq_eq_false_iff_ne]; omega
  have f5 : (kd == 5) = false := by rw [beq_eq_false_iff_ne]; omega
  have f6 : (kd == 6) = false := by rw [beq_eq_false_iff_ne]; omega
  have f8 : (kd == 8) = false := by rw [beq_eq_false_iff_ne]; omega
  have f10 : (kd == 10) = false := by rw [beq_eq_false_iff_ne]; omega
  clear hk h10
  go_enter Tryz.func15, Tryz.ntmps15
  go_wp2
  go_ret
  exact InC.no HI.out (((Gr.refl _).alloc _).alloc _)
end

theorem in_n (n : Nat) : ∀ t, SizeOf.sizeOf t < n → InOk t := by
  induction n with
  | zero => intro t h; exact absurd h (Nat.not_lt_zero _)
  | succ n ih =>
    intro t hn v m kv tx akv nkv ckv a1v n1v c1v kd ak nk ck a1 n1 c1 a2 n2 c2 w hwt hwv hv ht hm
    have IH := Lib.hid (fun d (hd : SizeOf.sizeOf d < SizeOf.sizeOf t) => ih d (by omega))
    obtain ⟨e1, e2, e3, e4, _, _, rkv, r1v⟩ := hv.open
    obtain ⟨g1, g2, g3, g4, _, l1, _, rk, r1, r2⟩ := ht.open
    by_cases h5 : kd = 5
    · exact in_5 h5 g1.symm e1.symm (Lib.hid fun W hW => items_any IH hwt hwv hv (h5 ▸ ht) (hm.trans hW))
    by_cases h6 : kd = 6
    · exact in_6 h6 g1.symm e1.symm (Lib.hid fun W hW => props_any IH hwt hwv hv (h6 ▸ ht) (hm.trans hW))
    subst e1 e2 e3 e4
    by_cases h8 : kd = 8
    · subst g2 g3 g4
      exact in_8 h8 g1.symm hwv hwt IH hv r1 l1 hm
    by_cases h1 : kd = 1
    · exact in_1 h1 g1.symm
    by_cases h2 : kd = 2
    · exact in_2 h2 g1.symm
    by_cases h3 : kd = 3
    · exact in_3 h3 g1.symm
    by_cases h4 : kd = 4
    · exact in_4 h4 g1.symm
    exact in_0 (by omega) (g1 ▸ hwt.out.1) g1.symm

theorem in_any (t : ST) : InOk t := in_n _ t (Nat.lt_succ_self _)
end Go.Proofs.YtaglgokeejjagaaGreat
