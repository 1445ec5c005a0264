/- The walk of the law FnMerge. -/
import Derived.Test.YtaglgokeejjagaaGreatOvG
import Derived.Test.YtaglgokeejjagaaGreatOvW
import Derived.Test.YtaglgokeejjagaaGreatPr2
import Derived.Test.YtaglgokeejjagaaGreatLawK
import Derived.Test.YtaglgokeejjagaaGreatWorks
import Derived.Test.YtaglgokeejjagaaGreatFits2
import Derived.Test.YtaglgokeejjagaaGreatWLast
namespace Go.Proofs.YtaglgokeejjagaaGreat
set_option linter.unusedVariables false
set_option linter.unusedSimpArgs false
open Go.RowKit Go.Sort Go.Proofs.YtaglgokeejjagaaGreatW.PrintLast

/-- The boxes of the four parameters. -/
structure BxQ (w : World) (oa ob ov ou : Obj) (W : World) : Prop where
  a : W.heap[w.heap.size]? = some oa
  b : W.heap[w.heap.size + 1]? = some ob
  v : W.heap[w.heap.size + 1 + 1]? = some ov
  u : W.heap[w.heap.size + 1 + 1 + 1]? = some ou
  bel : Below w.heap.size w W
theorem BxQ.bl {w : World} {oa ob ov ou : Obj} {W W' : World} (h : BxQ w oa ob ov ou W) (hb : Below W.heap.size W W') : BxQ w oa ob ov ou W' := ⟨bl_heap hb h.a, bl_heap hb h.b, bl_heap hb h.v, bl_heap hb h.u, bl_trans h.bel hb⟩
theorem BxQ.dr {w : World} {oa ob ov ou : Obj} {W : World} (h : BxQ w oa ob ov ou W) : BxQ w oa ob ov ou W.drew := ⟨h.a, h.b, h.v, h.u, h.bel.drew⟩
theorem BxQ.al {w : World} {oa ob ov ou : Obj} {W : World} (h : BxQ w oa ob ov ou W) (o : Obj) : BxQ w oa ob ov ou (W.alloc o) := ⟨al_old h.a, al_old h.b, al_old h.v, al_old h.u, bl_alloc h.bel _⟩
theorem inB_any {s : ST} {v : Vl} (hs : Wt s) (hv : Wv v) {W : World} {kv : Int} {tx : ByteArray} {akv a1v : Option Addr} {nkv ckv n1v c1v : Nat} {kd : Int} {ak a1 a2 : Option Addr} {nk ck n1 c1 n2 c2 : Nat} (h3 : MV W.cell? (vlCells kv tx akv nkv ckv a1v n1v c1v) v) (h4 : MST W.cell? (stCells kd ak nk ck a1 n1 c1 a2 n2 c2) s) :
    Calls Tryz.prog 15 #[.agg #[.int .i64 kv, .string tx, .slice akv nkv ckv, .slice a1v n1v c1v], .agg #[.int .i64 kd, .slice ak nk ck, .slice a1 n1 c1, .slice a2 n2 c2]] W (fun e w' => ∃ b, (b = true ↔ InP s v) ∧ e = .returned (.bool b) ∧ Below W.heap.size W w') :=
  (in_any s v W.cell? _ _ _ _ _ _ _ _ _ _ _ _ _ _ _ _ _ _ W hs hv h3 h4 (MLe.refl _)).mono fun e w' h => ⟨inT s v, ⟨in_of, inT_true⟩, h.1, h.2.below⟩

set_option maxHeartbeats 16000000 in
set_option maxRecDepth 100000 in
theorem law_merge {ta tb : IT} {v u : Vl} {m : Mem} {kda : Int} {nma txa : ByteArray} {aka a1a a2a : Option Addr} {nka cka n1a c1a n2a c2a : Nat} {kdb : Int} {nmb txb : ByteArray} {akb a1b a2b : Option Addr} {nkb ckb n1b c1b n2b c2b : Nat} {kdv : Int} {txv : ByteArray} {akv a1v : Option Addr} {nkv ckv n1v c1v : Nat} {kdu : Int} {txu : ByteArray} {aku a1u : Option Addr} {nku cku n1u c1u : Nat} {w : World} (hba : BdI ta) (hbb : BdI tb) (hbv : BdV v) (hbu : BdV u) (hva : MIT m (itCells kda nma txa aka nka cka a1a n1a c1a a2a n2a c2a) ta) (hvb : MIT m (itCells kdb nmb txb akb nkb ckb a1b n1b c1b a2b n2b c2b) tb) (hvv : MV m (vlCells kdv txv akv nkv ckv a1v n1v c1v) v) (hvu : MV m (vlCells kdu txu aku nku cku a1u n1u c1u) u) (hm : MLe m w.cell?) :
    Calls Tryz.prog 5 #[.agg #[.int .i64 kda, .string nma, .string txa, .slice aka nka cka, .slice a1a n1a c1a, .slice a2a n2a c2a], .agg #[.int .i64 kdb, .string nmb, .string txb, .slice akb nkb ckb, .slice a1b n1b c1b, .slice a2b n2b c2b], .agg #[.int .i64 kdv, .string txv, .slice akv nkv ckv, .slice a1v n1v c1v], .agg #[.int .i64 kdu, .string txu, .slice aku nku cku, .slice a1u n1u c1u]] w (LawQ w) := by
  have HFa := Lib.hid (fun (W : World) (h : MLe m W.cell?) => show Calls Tryz.prog 10 #[.agg #[.int .i64 kda, .string nma, .string txa, .slice aka nka cka, .slice a1a n1a c1a, .slice a2a n2a c2a]] W (SomeB W) from zzFits1_any hba hva h)
  have HKCa := Lib.hid (fun (W : World) (h : MLe m W.cell?) => show Calls Tryz.prog 16 #[.agg #[.int .i64 kda, .string nma, .string txa, .slice aka nka cka, .slice a1a n1a c1a, .slice a2a n2a c2a]] W (CpT (kindOf ta) m W) from kind_any ta m _ _ _ _ _ _ _ _ _ _ _ _ W hba hva h)
  have HFb := Lib.hid (fun (W : World) (h : MLe m W.cell?) => show Calls Tryz.prog 10 #[.agg #[.int .i64 kdb, .string nmb, .string txb, .slice akb nkb ckb, .slice a1b n1b c1b, .slice a2b n2b c2b]] W (SomeB W) from zzFits1_any hbb hvb h)
  have HKCb := Lib.hid (fun (W : World) (h : MLe m W.cell?) => show Calls Tryz.prog 16 #[.agg #[.int .i64 kdb, .string nmb, .string txb, .slice akb nkb ckb, .slice a1b n1b c1b, .slice a2b n2b c2b]] W (CpT (kindOf tb) m W) from kind_any tb m _ _ _ _ _ _ _ _ _ _ _ _ W hbb hvb h)
  have HFv := Lib.hid (fun (W : World) (h : MLe m W.cell?) => show Calls Tryz.prog 11 #[.agg #[.int .i64 kdv, .string txv, .slice akv nkv ckv, .slice a1v n1v c1v]] W (SomeB W) from by
    obtain ⟨rfl, rfl, rfl, rfl, lk, l1, rk, r1⟩ := hvv.open
    exact zzFits4_any lk rk h hbv.out.2.2.1 hbv.out.1 l1.1 l1.2)
  have HVCv := Lib.hid (fun (W : World) (h : MLe m W.cell?) => show Calls Tryz.prog 14 #[.agg #[.int .i64 kdv, .string txv, .slice akv nkv ckv, .slice a1v n1v c1v]] W (CpV (valOf v) m W) from value_any v m _ _ _ _ _ _ _ _ W hbv hvv h)
  have HPVv := Lib.hid (fun (W : World) (m' : Mem) (kd' tx' ak' nk' ck' a1' n1' c1') (h1 : MV m' (vlCells kd' tx' ak' nk' ck' a1' n1' c1') (valOf v)) (h2 : MLe m' W.cell?) => show Calls Tryz.prog 13 #[.agg #[.int .i64 kd', .string tx', .slice ak' nk' ck', .slice a1' n1' c1']] W (fun e w' => ∃ b, (b = true → PV (valOf v)) ∧ e = .returned (.bool b) ∧ Below W.heap.size W w') from
    (properValue_any (SizeOf.sizeOf (valOf v) + 1) (valOf v) m' _ _ _ _ _ _ _ _ W (Nat.lt_succ_self _) (bd_val hbv) h1 h2).mono fun e w' h => ⟨properV (valOf v), pv_of, h.1, h.2.below⟩)
  have HFu := Lib.hid (fun (W : World) (h : MLe m W.cell?) => show Calls Tryz.prog 11 #[.agg #[.int .i64 kdu, .string txu, .slice aku nku cku, .slice a1u n1u c1u]] W (SomeB W) from by
    obtain ⟨rfl, rfl, rfl, rfl, lk, l1, rk, r1⟩ := hvu.open
    exact zzFits4_any lk rk h hbu.out.2.2.1 hbu.out.1 l1.1 l1.2)
  have HVCu := Lib.hid (fun (W : World) (h : MLe m W.cell?) => show Calls Tryz.prog 14 #[.agg #[.int .i64 kdu, .string txu, .slice aku nku cku, .slice a1u n1u c1u]] W (CpV (valOf u) m W) from value_any u m _ _ _ _ _ _ _ _ W hbu hvu h)
  have HPVu := Lib.hid (fun (W : World) (m' : Mem) (kd' tx' ak' nk' ck' a1' n1' c1') (h1 : MV m' (vlCells kd' tx' ak' nk' ck' a1' n1' c1') (valOf u)) (h2 : MLe m' W.cell?) => show Calls Tryz.prog 13 #[.agg #[.int .i64 kd', .string tx', .slice ak' nk' ck', .slice a1' n1' c1']] W (fun e w' => ∃ b, (b = true → PV (valOf u)) ∧ e = .returned (.bool b) ∧ Below W.heap.size W w') from
    (properValue_any (SizeOf.sizeOf (valOf u) + 1) (valOf u) m' _ _ _ _ _ _ _ _ W (Nat.lt_succ_self _) (bd_val hbu) h1 h2).mono fun e w' h => ⟨properV (valOf u), pv_of, h.1, h.2.below⟩)
  have HPR := Lib.hid (fun (W : World) (b : Nat) (h : MLe m W.cell?) (hx : W.heap[b]? = some (.cells #[.int .i64 kda, .string nma, .string txa, .slice aka nka cka, .slice a1a n1a c1a, .slice a2a n2a c2a, .int .i64 kdb, .string nmb, .string txb, .slice akb nkb ckb, .slice a1b n1b c1b, .slice a2b n2b c2b] 25 (0, 0))) => show Calls Tryz.prog 12 #[.slice (some ⟨b, 0, none⟩) 2 2] W (PrpQ2 ta tb W) from proper2 hba hbb hva hvb h hx)
  have HIM := Lib.hid (fun (W : World) (h : MLe m W.cell?) (ha : PT (toS ta)) (hb : PT (toS tb)) (h1 : WI ta ≤ 20000) (h2 : WI tb ≤ 20000) => show Calls Tryz.prog 25 #[.agg #[.int .i64 kda, .string nma, .string txa, .slice aka nka cka, .slice a1a n1a c1a, .slice a2a n2a c2a], .agg #[.int .i64 kdb, .string nmb, .string txb, .slice akb nkb ckb, .slice a1b n1b c1b, .slice a2b n2b c2b]] W (ImQ (nrm (toS ta)) (nrm (toS tb)) W) from imerge_any hva hvb (pt_bt ha) (pt_bt hb) (pt_na hb) h1 h2 h)
  have HKA := Lib.hid (show kda = (toS ta).kind ∧ n2a = (toS ta).more.length from by obtain ⟨h1, _, _, _, _, h6, _⟩ := hva.open; exact ⟨by rw [toS_kind]; exact h1, by rw [toS_more]; simpa using h6⟩)
  have HKB := Lib.hid (show kdb = (toS tb).kind ∧ n2b = (toS tb).more.length from by obtain ⟨h1, _, _, _, _, h6, _⟩ := hvb.open; exact ⟨by rw [toS_kind]; exact h1, by rw [toS_more]; simpa using h6⟩)
  have HM := Lib.hid hm
  clear hm hva hvb hvv hvu hba hbb hbv hbu
  go_enter Tryz.func5, Tryz.ntmps5
  go_wp2_with (first
    | (fail_if_success (have h := HQ1)
       go_at_call 10; refine (HFa.out _ (mle_alloc (mle_alloc (mle_alloc (mle_alloc HM.out _) _) _) _)).mono ?_; rintro e w1 ⟨b, rfl, hg⟩
       have HQ1 := Lib.hid (BxQ.bl (w := w) (oa := .cells #[.int .i64 kda, .string nma, .string txa, .slice aka nka cka, .slice a1a n1a c1a, .slice a2a n2a c2a] 25 (0, 0)) (ob := .cells #[.int .i64 kdb, .string nmb, .string txb, .slice akb nkb ckb, .slice a1b n1b c1b, .slice a2b n2b c2b] 25 (0, 0)) (ov := .cells #[.int .i64 kdv, .string txv, .slice akv nkv ckv, .slice a1v n1v c1v] 29 (0, 0)) (ou := .cells #[.int .i64 kdu, .string txu, .slice aku nku cku, .slice a1u n1u c1u] 29 (0, 0)) ⟨al_old (al_old (al_old (al_new rfl))), al_old (al_old (al_new (by simp))), al_old (al_new (by simp)), al_new (by simp), by repeat (first | exact Below.refl _ _ | refine Below.alloc ?_ (by simp; try omega) _)⟩ hg.below)
       obtain ⟨z0, z1, z2, z3, z4, z5⟩ := cells6 HQ1.out.b
       clear hg
       cases b)
    | (fail_if_success (have h := HQ2)
       go_at_call 10; refine (HFb.out _ (HM.out.trans (mle_below HQ1.out.bel))).mono ?_; rintro e w2 ⟨b, rfl, hg⟩
       have HQ2 := Lib.hid (HQ1.out.bl hg.below)
       clear z0 z1 z2 z3 z4 z5
       obtain ⟨y0, y1, y2, y3⟩ := cells4 HQ2.out.v
       clear hg
       cases b)
    | (fail_if_success (have h := HQ3)
       go_at_call 11; refine (HFv.out _ (HM.out.trans (mle_below HQ2.out.bel))).mono ?_; rintro e w3 ⟨b, rfl, hg⟩
       have HQ3 := Lib.hid (HQ2.out.bl hg.below)
       clear y0 y1 y2 y3
       obtain ⟨t0, t1, t2, t3⟩ := cells4 HQ3.out.u
       clear hg
       cases b)
    | (fail_if_success (have h := HQ4)
       go_at_call 11; refine (HFu.out _ (HM.out.trans (mle_below HQ3.out.bel))).mono ?_; rintro e w4 ⟨b, rfl, hg⟩
       have HQ4 := Lib.hid (HQ3.out.bl hg.below)
       clear t0 t1 t2 t3
       obtain ⟨x0, x1, x2, x3, x4, x5⟩ := cells6 HQ4.out.a
       obtain ⟨z0, z1, z2, z3, z4, z5⟩ := cells6 HQ4.out.b
       clear hg
       cases b)
    | (fail_if_success (have h := HQ5)
       go_at_call 12; refine (HPR.out _ w4.heap.size (mle_alloc (HM.out.trans (mle_below HQ4.out.bel)) _) (al_new rfl)).mono ?_; rintro e w5 ⟨b, rfl, hp, hb⟩
       have HQ5 := Lib.hid ((HQ4.out.al _).bl hb)
       have HPT := Lib.hid hp
       clear x0 x1 x2 x3 x4 x5 z0 z1 z2 z3 z4 z5 hp hb
       obtain ⟨y0, y1, y2, y3⟩ := cells4 HQ5.out.v
       cases b)
    | (fail_if_success (have h := HQ6)
       go_at_call 14; refine (HVCv.out _ (HM.out.trans (mle_below HQ5.out.bel))).mono ?_; rintro e w6 ⟨kd6, tx6, ak6, nk6, ck6, a16, n16, c16, rfl, hmv, hb⟩
       have HQ6 := Lib.hid (HQ5.out.bl hb)
       have HMV6 := Lib.hid hmv
       clear hmv hb y0 y1 y2 y3)
    | (fail_if_success (have h := HQ7)
       go_at_call 13; refine (HPVv.out _ _ _ _ _ _ _ _ _ _ HMV6.out (fr_le (HM.out.trans (mle_below HQ6.out.bel)))).mono ?_; rintro e w7 ⟨b, hp, rfl, hb⟩
       have HQ7 := Lib.hid (HQ6.out.bl hb)
       have HPV7 := Lib.hid hp
       clear hp hb
       obtain ⟨t0, t1, t2, t3⟩ := cells4 HQ7.out.u
       cases b)
    | (fail_if_success (have h := HQ8)
       go_at_call 14; refine (HVCu.out _ (HM.out.trans (mle_below HQ7.out.bel))).mono ?_; rintro e w8 ⟨kd8, tx8, ak8, nk8, ck8, a18, n18, c18, rfl, hmv, hb⟩
       have HQ8 := Lib.hid (HQ7.out.bl hb)
       have HMV8 := Lib.hid hmv
       clear hmv hb t0 t1 t2 t3)
    | (fail_if_success (have h := HQ9)
       go_at_call 13; refine (HPVu.out _ _ _ _ _ _ _ _ _ _ HMV8.out (fr_le (HM.out.trans (mle_below HQ8.out.bel)))).mono ?_; rintro e w9 ⟨b, hp, rfl, hb⟩
       have HQ9 := Lib.hid (HQ8.out.bl hb)
       have HPV9 := Lib.hid hp
       clear hp hb
       obtain ⟨x0, x1, x2, x3, x4, x5⟩ := cells6 HQ9.out.a
       obtain ⟨z0, z1, z2, z3, z4, z5⟩ := cells6 HQ9.out.b
       cases b)
    | (fail_if_success (have h := HQ10)
       go_at_call 25; refine (HIM.out _ (HM.out.trans (mle_below HQ9.out.bel)) (by have h := (HPT.out (by simp)).1.2; exact h) (by have h := (HPT.out (by simp)).2.2; exact h) (by have h := (HPT.out (by simp)).1.1; omega) (by have h := (HPT.out (by simp)).2.1; omega)).mono ?_; rintro e w10 ⟨ok, om, akm, nkm, ckm, a1m, n1m, c1m, a2m, n2m, c2m, rfl, hok, hom, hmi, hb⟩
       have HQ10 := Lib.hid (HQ9.out.bl hb)
       have HOK := Lib.hid hok
       have HOM := Lib.hid hom
       have HMI := Lib.hid hmi
       have HB910 := Lib.hid hb
       have hk6 : (kda == 6) = ok := by
         have h1 := hok
         rw [nrm_kind, ← HKA.out.1] at h1
         cases ok
         · simpa using h1
         · simpa using h1
       clear hok hom hmi hb x0 x1 x2 x3 x4 x5 z0 z1 z2 z3 z4 z5
       obtain ⟨x0, x1, x2, x3, x4, x5⟩ := cells6 HQ10.out.a
       have hsz := lt_blk HQ10.out.a
       cases ok)
    | (go_at_call 17; refine (works_any _).mono ?_; rintro e wz ⟨rfl, hgz⟩
       first | (have HBZ := Lib.hid (bl_trans HQ9.out.bel hgz.below)) | (have HBZ := Lib.hid (bl_trans HQ7.out.bel hgz.below)) | (have HBZ := Lib.hid (bl_trans HQ5.out.bel hgz.below))
       clear hgz))
  · go_ret
    exact ⟨rfl, HQ1.out.bel⟩
  · go_ret
    exact ⟨rfl, HQ2.out.bel⟩
  · go_ret
    exact ⟨rfl, HQ3.out.bel⟩
  · go_ret
    exact ⟨rfl, HQ4.out.bel⟩
  · go_ret
    exact ⟨rfl, HBZ.out⟩
  · go_ret
    exact ⟨rfl, HBZ.out⟩
  · go_ret
    exact ⟨rfl, HBZ.out⟩
  · skip
    have HQ11 := Lib.hid (HQ10.out.al (.cells #[.int .i64 (oI om).kind, .string ⟨#[]⟩, .string ⟨#[]⟩, .slice akm nkm ckm, .slice a1m n1m c1m, .slice a2m n2m c2m] 25))
    have HMB := Lib.hid (al_new (w := w10) (o := .cells #[.int .i64 (oI om).kind, .string ⟨#[]⟩, .string ⟨#[]⟩, .slice akm nkm ckm, .slice a1m n1m c1m, .slice a2m n2m c2m] 25) rfl)
    have HTM := Lib.hid (HMI.out.mono (mle_alloc (fr_le (m0_le _)) (.cells #[.int .i64 (oI om).kind, .string ⟨#[]⟩, .string ⟨#[]⟩, .slice akm nkm ckm, .slice a1m n1m c1m, .slice a2m n2m c2m] 25)))
    clear x0 x1 x2 x3 x4 x5 hk6
    generalize w10.alloc (.cells #[.int .i64 (oI om).kind, .string ⟨#[]⟩, .string ⟨#[]⟩, .slice akm nkm ckm, .slice a1m n1m c1m, .slice a2m n2m c2m] 25) = w11 at HQ11 HMB HTM ⊢
    refine start_ (n := 51) (S := fun w' => w'.cell? ⟨w.heap.size, 0, none⟩ = some (.int .i64 kda) ∧ w'.cell? ⟨w.heap.size, 1, none⟩ = some (.string nma) ∧ w'.cell? ⟨w.heap.size, 2, none⟩ = some (.string txa) ∧ w'.cell? ⟨w.heap.size, 3, none⟩ = some (.slice aka nka cka) ∧ w'.cell? ⟨w.heap.size, 4, none⟩ = some (.slice a1a n1a c1a) ∧ w'.cell? ⟨w.heap.size, 5, none⟩ = some (.slice a2a n2a c2a) ∧ w'.cell? ⟨w.heap.size + 1, 0, none⟩ = some (.int .i64 kdb) ∧ w'.cell? ⟨w.heap.size + 1, 1, none⟩ = some (.string nmb) ∧ w'.cell? ⟨w.heap.size + 1, 2, none⟩ = some (.string txb) ∧ w'.cell? ⟨w.heap.size + 1, 3, none⟩ = some (.slice akb nkb ckb) ∧ w'.cell? ⟨w.heap.size + 1, 4, none⟩ = some (.slice a1b n1b c1b) ∧ w'.cell? ⟨w.heap.size + 1, 5, none⟩ = some (.slice a2b n2b c2b) ∧ w'.cell? ⟨w.heap.size + 1 + 1, 0, none⟩ = some (.int .i64 kdv) ∧ w'.cell? ⟨w.heap.size + 1 + 1, 1, none⟩ = some (.string txv) ∧ w'.cell? ⟨w.heap.size + 1 + 1, 2, none⟩ = some (.slice akv nkv ckv) ∧ w'.cell? ⟨w.heap.size + 1 + 1, 3, none⟩ = some (.slice a1v n1v c1v) ∧ w'.cell? ⟨w.heap.size + 1 + 1 + 1, 0, none⟩ = some (.int .i64 kdu) ∧ w'.cell? ⟨w.heap.size + 1 + 1 + 1, 1, none⟩ = some (.string txu) ∧ w'.cell? ⟨w.heap.size + 1 + 1 + 1, 2, none⟩ = some (.slice aku nku cku) ∧ w'.cell? ⟨w.heap.size + 1 + 1 + 1, 3, none⟩ = some (.slice a1u n1u c1u)) (ds := []) (lb 51 0) (by kernel_rfl) rfl rfl ⟨cell_blk HQ11.out.dr.a 0 rfl, cell_blk HQ11.out.dr.a 1 rfl, cell_blk HQ11.out.dr.a 2 rfl, cell_blk HQ11.out.dr.a 3 rfl, cell_blk HQ11.out.dr.a 4 rfl, cell_blk HQ11.out.dr.a 5 rfl, cell_blk HQ11.out.dr.b 0 rfl, cell_blk HQ11.out.dr.b 1 rfl, cell_blk HQ11.out.dr.b 2 rfl, cell_blk HQ11.out.dr.b 3 rfl, cell_blk HQ11.out.dr.b 4 rfl, cell_blk HQ11.out.dr.b 5 rfl, cell_blk HQ11.out.dr.v 0 rfl, cell_blk HQ11.out.dr.v 1 rfl, cell_blk HQ11.out.dr.v 2 rfl, cell_blk HQ11.out.dr.v 3 rfl, cell_blk HQ11.out.dr.u 0 rfl, cell_blk HQ11.out.dr.u 1 rfl, cell_blk HQ11.out.dr.u 2 rfl, cell_blk HQ11.out.dr.u 3 rfl⟩ (fun hHeld => ?_)
    refine pure_ (i := 0) (N := some 58) (v := ?_) (a' := ?_) (lb 51 1) rfl rfl (by kernel_rfl) (fun _ _ _ h => h) (Or.inl ⟨by rfl, ?_⟩) ?_ ?_
    rotate_left
    · intro w'
      go_simp
      with_reducible rfl
    rotate_left
    · simp only [Act.put, nrA, nrB, nrC, i64_w, i32_w]
      rfl
    refine pure_ (i := 1) (N := some 59) (v := ?_) (a' := ?_) (lb 51 3) rfl rfl (by kernel_rfl) (fun _ _ _ h => h) (Or.inl ⟨by rfl, ?_⟩) ?_ ?_
    rotate_left
    · intro w'
      go_simp
      with_reducible rfl
    rotate_left
    · simp only [Act.put, nrA, nrB, nrC, i64_w, i32_w]
      rfl
    refine pure_ (i := 2) (N := some 60) (v := ?_) (a' := ?_) (lb 51 7) rfl rfl (by kernel_rfl) (fun _ _ _ h => h) (Or.inl ⟨by rfl, ?_⟩) ?_ ?_
    rotate_left
    · intro w'
      go_simp
      with_reducible rfl
    rotate_left
    · simp only [Act.put, nrA, nrB, nrC, i64_w, i32_w]
      rfl
    refine pure_ (i := 3) (N := some 61) (v := undef) (a' := ?_) (lb 51 15) rfl rfl (by kernel_rfl) (fun _ _ _ h => h) (Or.inr ⟨by rfl, rfl⟩) ?_ ?_
    rotate_left
    · simp only [Act.put, nrA, nrB, nrC, i64_w, i32_w]
      rfl
    refine pure_ (i := 4) (N := some 62) (v := undef) (a' := ?_) (lb 51 31) rfl rfl (by kernel_rfl) (fun _ _ _ h => h) (Or.inr ⟨by rfl, rfl⟩) ?_ ?_
    rotate_left
    · simp only [Act.put, nrA, nrB, nrC, i64_w, i32_w]
      rfl
    refine pure_ (i := 5) (N := some 63) (v := undef) (a' := ?_) (lb 51 63) rfl rfl (by kernel_rfl) (fun _ _ _ h => h) (Or.inr ⟨by rfl, rfl⟩) ?_ ?_
    rotate_left
    · simp only [Act.put, nrA, nrB, nrC, i64_w, i32_w]
      rfl
    refine pure_ (i := 6) (N := some 64) (v := ?_) (a' := ?_) (lb 51 127) rfl rfl (by kernel_rfl) (fun _ _ _ h => h) (Or.inl ⟨by rfl, ?_⟩) ?_ ?_
    rotate_left
    · intro w'
      go_simp
      with_reducible rfl
    rotate_left
    · simp only [Act.put, nrA, nrB, nrC, i64_w, i32_w]
      rfl
    refine pure_ (i := 7) (N := some 65) (v := ?_) (a' := ?_) (lb 51 255) rfl rfl (by kernel_rfl) (fun _ _ _ h => h) (Or.inl ⟨by rfl, ?_⟩) ?_ ?_
    rotate_left
    · intro w'
      go_simp
      with_reducible rfl
    rotate_left
    · simp only [Act.put, nrA, nrB, nrC, i64_w, i32_w]
      rfl
    refine pure_ (i := 8) (N := some 66) (v := undef) (a' := ?_) (lb 51 511) rfl rfl (by kernel_rfl) (fun _ _ _ h => h) (Or.inr ⟨by rfl, rfl⟩) ?_ ?_
    rotate_left
    · simp only [Act.put, nrA, nrB, nrC, i64_w, i32_w]
      rfl
    refine pure_ (i := 9) (N := some 67) (v := undef) (a' := ?_) (lb 51 1023) rfl rfl (by kernel_rfl) (fun _ _ _ h => h) (Or.inr ⟨by rfl, rfl⟩) ?_ ?_
    rotate_left
    · simp only [Act.put, nrA, nrB, nrC, i64_w, i32_w]
      rfl
    refine pure_ (i := 10) (N := some 68) (v := undef) (a' := ?_) (lb 51 2047) rfl rfl (by kernel_rfl) (fun _ _ _ h => h) (Or.inr ⟨by rfl, rfl⟩) ?_ ?_
    rotate_left
    · simp only [Act.put, nrA, nrB, nrC, i64_w, i32_w]
      rfl
    refine pure_ (i := 11) (N := some 69) (v := undef) (a' := ?_) (lb 51 4095) rfl rfl (by kernel_rfl) (fun _ _ _ h => h) (Or.inr ⟨by rfl, rfl⟩) ?_ ?_
    rotate_left
    · simp only [Act.put, nrA, nrB, nrC, i64_w, i32_w]
      rfl
    refine pure_ (i := 12) (N := some 70) (v := undef) (a' := ?_) (lb 51 8191) rfl rfl (by kernel_rfl) (fun _ _ _ h => h) (Or.inr ⟨by rfl, rfl⟩) ?_ ?_
    rotate_left
    · simp only [Act.put, nrA, nrB, nrC, i64_w, i32_w]
      rfl
    refine pure_ (i := 13) (N := some 71) (v := undef) (a' := ?_) (lb 51 16383) rfl rfl (by kernel_rfl) (fun _ _ _ h => h) (Or.inr ⟨by rfl, rfl⟩) ?_ ?_
    rotate_left
    · simp only [Act.put, nrA, nrB, nrC, i64_w, i32_w]
      rfl
    refine pure_ (i := 14) (N := some 72) (v := ?_) (a' := ?_) (lb 51 32767) rfl rfl (by kernel_rfl) (fun _ _ _ h => h) (Or.inl ⟨by rfl, ?_⟩) ?_ ?_
    rotate_left
    · intro w'
      go_simp
      with_reducible rfl
    rotate_left
    · simp only [Act.put, nrA, nrB, nrC, i64_w, i32_w]
      rfl
    refine pure_ (i := 15) (N := some 73) (v := ?_) (a' := ?_) (lb 51 65535) rfl rfl (by kernel_rfl) (fun _ _ _ h => h) (Or.inl ⟨by rfl, ?_⟩) ?_ ?_
    rotate_left
    · intro w'
      go_simp
      with_reducible rfl
    rotate_left
    · simp only [Act.put, nrA, nrB, nrC, i64_w, i32_w]
      rfl
    refine pure_ (i := 16) (N := some 74) (v := undef) (a' := ?_) (lb 51 131071) rfl rfl (by kernel_rfl) (fun _ _ _ h => h) (Or.inr ⟨by rfl, rfl⟩) ?_ ?_
    rotate_left
    · simp only [Act.put, nrA, nrB, nrC, i64_w, i32_w]
      rfl
    refine pure_ (i := 17) (N := some 75) (v := undef) (a' := ?_) (lb 51 262143) rfl rfl (by kernel_rfl) (fun _ _ _ h => h) (Or.inr ⟨by rfl, rfl⟩) ?_ ?_
    rotate_left
    · simp only [Act.put, nrA, nrB, nrC, i64_w, i32_w]
      rfl
    refine pure_ (i := 18) (N := some 76) (v := undef) (a' := ?_) (lb 51 524287) rfl rfl (by kernel_rfl) (fun _ _ _ h => h) (Or.inr ⟨by rfl, rfl⟩) ?_ ?_
    rotate_left
    · simp only [Act.put, nrA, nrB, nrC, i64_w, i32_w]
      rfl
    refine pure_ (i := 19) (N := some 77) (v := undef) (a' := ?_) (lb 51 1048575) rfl rfl (by kernel_rfl) (fun _ _ _ h => h) (Or.inr ⟨by rfl, rfl⟩) ?_ ?_
    rotate_left
    · simp only [Act.put, nrA, nrB, nrC, i64_w, i32_w]
      rfl
    refine pure_ (i := 20) (N := some 78) (v := undef) (a' := ?_) (lb 51 2097151) rfl rfl (by kernel_rfl) (fun _ _ _ h => h) (Or.inr ⟨by rfl, rfl⟩) ?_ ?_
    rotate_left
    · simp only [Act.put, nrA, nrB, nrC, i64_w, i32_w]
      rfl
    refine pure_ (i := 21) (N := some 79) (v := undef) (a' := ?_) (lb 51 4194303) rfl rfl (by kernel_rfl) (fun _ _ _ h => h) (Or.inr ⟨by rfl, rfl⟩) ?_ ?_
    rotate_left
    · simp only [Act.put, nrA, nrB, nrC, i64_w, i32_w]
      rfl
    refine pure_ (i := 22) (N := some 80) (v := ?_) (a' := ?_) (lb 51 8388607) rfl rfl (by kernel_rfl) (fun _ _ _ h => h) (Or.inl ⟨by rfl, ?_⟩) ?_ ?_
    rotate_left
    · intro w'
      go_simp
      with_reducible rfl
    rotate_left
    · simp only [Act.put, nrA, nrB, nrC, i64_w, i32_w]
      rfl
    refine pure_ (i := 23) (N := some 81) (v := ?_) (a' := ?_) (lb 51 16777215) rfl rfl (by kernel_rfl) (fun _ _ _ h => h) (Or.inl ⟨by rfl, ?_⟩) ?_ ?_
    rotate_left
    · intro w'
      go_simp
      with_reducible rfl
    rotate_left
    · simp only [Act.put, nrA, nrB, nrC, i64_w, i32_w]
      rfl
    refine pure_ (i := 24) (N := some 82) (v := undef) (a' := ?_) (lb 51 33554431) rfl rfl (by kernel_rfl) (fun _ _ _ h => h) (Or.inr ⟨by rfl, rfl⟩) ?_ ?_
    rotate_left
    · simp only [Act.put, nrA, nrB, nrC, i64_w, i32_w]
      rfl
    refine pure_ (i := 25) (N := some 83) (v := undef) (a' := ?_) (lb 51 67108863) rfl rfl (by kernel_rfl) (fun _ _ _ h => h) (Or.inr ⟨by rfl, rfl⟩) ?_ ?_
    rotate_left
    · simp only [Act.put, nrA, nrB, nrC, i64_w, i32_w]
      rfl
    refine pure_ (i := 26) (N := some 84) (v := undef) (a' := ?_) (lb 51 134217727) rfl rfl (by kernel_rfl) (fun _ _ _ h => h) (Or.inr ⟨by rfl, rfl⟩) ?_ ?_
    rotate_left
    · simp only [Act.put, nrA, nrB, nrC, i64_w, i32_w]
      rfl
    refine pure_ (i := 27) (N := some 85) (v := undef) (a' := ?_) (lb 51 268435455) rfl rfl (by kernel_rfl) (fun _ _ _ h => h) (Or.inr ⟨by rfl, rfl⟩) ?_ ?_
    rotate_left
    · simp only [Act.put, nrA, nrB, nrC, i64_w, i32_w]
      rfl
    refine pure_ (i := 28) (N := some 86) (v := undef) (a' := ?_) (lb 51 536870911) rfl rfl (by kernel_rfl) (fun _ _ _ h => h) (Or.inr ⟨by rfl, rfl⟩) ?_ ?_
    rotate_left
    · simp only [Act.put, nrA, nrB, nrC, i64_w, i32_w]
      rfl
    refine pure_ (i := 29) (N := some 87) (v := undef) (a' := ?_) (lb 51 1073741823) rfl rfl (by kernel_rfl) (fun _ _ _ h => h) (Or.inr ⟨by rfl, rfl⟩) ?_ ?_
    rotate_left
    · simp only [Act.put, nrA, nrB, nrC, i64_w, i32_w]
      rfl
    refine pure_ (i := 30) (N := some 88) (v := undef) (a' := ?_) (lb 51 2147483647) rfl rfl (by kernel_rfl) (fun _ _ _ h => h) (Or.inr ⟨by rfl, rfl⟩) ?_ ?_
    rotate_left
    · simp only [Act.put, nrA, nrB, nrC, i64_w, i32_w]
      rfl
    refine pure_ (i := 31) (N := some 89) (v := ?_) (a' := ?_) (lb 51 4294967295) rfl rfl (by kernel_rfl) (fun _ _ _ h => h) (Or.inl ⟨by rfl, ?_⟩) ?_ ?_
    rotate_left
    · intro w'
      go_simp
      with_reducible rfl
    rotate_left
    · simp only [Act.put, nrA, nrB, nrC, i64_w, i32_w]
      rfl
    refine pure_ (i := 32) (N := some 90) (v := ?_) (a' := ?_) (lb 51 8589934591) rfl rfl (by kernel_rfl) (fun _ _ _ h => h) (Or.inl ⟨by rfl, ?_⟩) ?_ ?_
    rotate_left
    · intro w'
      go_simp
      with_reducible rfl
    rotate_left
    · simp only [Act.put, nrA, nrB, nrC, i64_w, i32_w]
      rfl
    refine pure_ (i := 33) (N := some 91) (v := undef) (a' := ?_) (lb 51 17179869183) rfl rfl (by kernel_rfl) (fun _ _ _ h => h) (Or.inr ⟨by rfl, rfl⟩) ?_ ?_
    rotate_left
    · simp only [Act.put, nrA, nrB, nrC, i64_w, i32_w]
      rfl
    refine pure_ (i := 34) (N := some 92) (v := undef) (a' := ?_) (lb 51 34359738367) rfl rfl (by kernel_rfl) (fun _ _ _ h => h) (Or.inr ⟨by rfl, rfl⟩) ?_ ?_
    rotate_left
    · simp only [Act.put, nrA, nrB, nrC, i64_w, i32_w]
      rfl
    refine pure_ (i := 35) (N := some 93) (v := undef) (a' := ?_) (lb 51 68719476735) rfl rfl (by kernel_rfl) (fun _ _ _ h => h) (Or.inr ⟨by rfl, rfl⟩) ?_ ?_
    rotate_left
    · simp only [Act.put, nrA, nrB, nrC, i64_w, i32_w]
      rfl
    refine pure_ (i := 36) (N := some 94) (v := undef) (a' := ?_) (lb 51 137438953471) rfl rfl (by kernel_rfl) (fun _ _ _ h => h) (Or.inr ⟨by rfl, rfl⟩) ?_ ?_
    rotate_left
    · simp only [Act.put, nrA, nrB, nrC, i64_w, i32_w]
      rfl
    refine pure_ (i := 37) (N := some 95) (v := undef) (a' := ?_) (lb 51 274877906943) rfl rfl (by kernel_rfl) (fun _ _ _ h => h) (Or.inr ⟨by rfl, rfl⟩) ?_ ?_
    rotate_left
    · simp only [Act.put, nrA, nrB, nrC, i64_w, i32_w]
      rfl
    refine pure_ (i := 38) (N := some 96) (v := ?_) (a' := ?_) (lb 51 549755813887) rfl rfl (by kernel_rfl) (fun _ _ _ h => h) (Or.inl ⟨by rfl, ?_⟩) ?_ ?_
    rotate_left
    · intro w'
      go_simp
      with_reducible rfl
    rotate_left
    · simp only [Act.put, nrA, nrB, nrC, i64_w, i32_w]
      rfl
    refine pure_ (i := 39) (N := some 97) (v := ?_) (a' := ?_) (lb 51 1099511627775) rfl rfl (by kernel_rfl) (fun _ _ _ h => h) (Or.inl ⟨by rfl, ?_⟩) ?_ ?_
    rotate_left
    · intro w'
      go_simp
      with_reducible rfl
    rotate_left
    · simp only [Act.put, nrA, nrB, nrC, i64_w, i32_w]
      rfl
    refine pure_ (i := 40) (N := some 98) (v := undef) (a' := ?_) (lb 51 2199023255551) rfl rfl (by kernel_rfl) (fun _ _ _ h => h) (Or.inr ⟨by rfl, rfl⟩) ?_ ?_
    rotate_left
    · simp only [Act.put, nrA, nrB, nrC, i64_w, i32_w]
      rfl
    refine pure_ (i := 41) (N := some 99) (v := undef) (a' := ?_) (lb 51 4398046511103) rfl rfl (by kernel_rfl) (fun _ _ _ h => h) (Or.inr ⟨by rfl, rfl⟩) ?_ ?_
    rotate_left
    · simp only [Act.put, nrA, nrB, nrC, i64_w, i32_w]
      rfl
    refine pure_ (i := 42) (N := some 100) (v := undef) (a' := ?_) (lb 51 8796093022207) rfl rfl (by kernel_rfl) (fun _ _ _ h => h) (Or.inr ⟨by rfl, rfl⟩) ?_ ?_
    rotate_left
    · simp only [Act.put, nrA, nrB, nrC, i64_w, i32_w]
      rfl
    refine pure_ (i := 43) (N := some 101) (v := undef) (a' := ?_) (lb 51 17592186044415) rfl rfl (by kernel_rfl) (fun _ _ _ h => h) (Or.inr ⟨by rfl, rfl⟩) ?_ ?_
    rotate_left
    · simp only [Act.put, nrA, nrB, nrC, i64_w, i32_w]
      rfl
    refine pure_ (i := 44) (N := some 102) (v := undef) (a' := ?_) (lb 51 35184372088831) rfl rfl (by kernel_rfl) (fun _ _ _ h => h) (Or.inr ⟨by rfl, rfl⟩) ?_ ?_
    rotate_left
    · simp only [Act.put, nrA, nrB, nrC, i64_w, i32_w]
      rfl
    refine pure_ (i := 45) (N := some 103) (v := undef) (a' := ?_) (lb 51 70368744177663) rfl rfl (by kernel_rfl) (fun _ _ _ h => h) (Or.inr ⟨by rfl, rfl⟩) ?_ ?_
    rotate_left
    · simp only [Act.put, nrA, nrB, nrC, i64_w, i32_w]
      rfl
    refine pure_ (i := 46) (N := some 104) (v := undef) (a' := ?_) (lb 51 140737488355327) rfl rfl (by kernel_rfl) (fun _ _ _ h => h) (Or.inr ⟨by rfl, rfl⟩) ?_ ?_
    rotate_left
    · simp only [Act.put, nrA, nrB, nrC, i64_w, i32_w]
      rfl
    refine pure_ (i := 47) (N := some 105) (v := undef) (a' := ?_) (lb 51 281474976710655) rfl rfl (by kernel_rfl) (fun _ _ _ h => h) (Or.inr ⟨by rfl, rfl⟩) ?_ ?_
    rotate_left
    · simp only [Act.put, nrA, nrB, nrC, i64_w, i32_w]
      rfl
    refine pure_ (i := 48) (N := some 106) (v := undef) (a' := ?_) (lb 51 562949953421311) rfl rfl (by kernel_rfl) (fun _ _ _ h => h) (Or.inr ⟨by rfl, rfl⟩) ?_ ?_
    rotate_left
    · simp only [Act.put, nrA, nrB, nrC, i64_w, i32_w]
      rfl
    refine pure_ (i := 49) (N := some 107) (v := undef) (a' := ?_) (lb 51 1125899906842623) rfl rfl (by kernel_rfl) (fun _ _ _ h => h) (Or.inr ⟨by rfl, rfl⟩) ?_ ?_
    rotate_left
    · simp only [Act.put, nrA, nrB, nrC, i64_w, i32_w]
      rfl
    refine pure_ (i := 50) (N := some 108) (v := ?_) (a' := ?_) (lb 51 2251799813685247) rfl rfl (by kernel_rfl) (fun _ _ _ h => h) (Or.inl ⟨by rfl, ?_⟩) ?_ ?_
    rotate_left
    · intro w'
      go_simp
      with_reducible rfl
    rotate_left
    · simp only [Act.put, nrA, nrB, nrC, i64_w, i32_w]
      rfl
    refine done_ (by kernel_rfl) ?_
    have HBE := Lib.hid HQ11.out.bel
    clear hHeld
    go_wp2_with (go_at_call 17; refine (works_any _).mono ?_; rintro e wz ⟨rfl, hgz⟩; have HBZ := Lib.hid (bl_trans HBE.out.drew hgz.below); clear hgz)
    go_ret
    exact ⟨rfl, HBZ.out⟩
  · skip
    have HQ11 := Lib.hid (HQ10.out.al (.cells #[.int .i64 (oI om).kind, .string ⟨#[]⟩, .string ⟨#[]⟩, .slice akm nkm ckm, .slice a1m n1m c1m, .slice a2m n2m c2m] 25))
    have HMB := Lib.hid (al_new (w := w10) (o := .cells #[.int .i64 (oI om).kind, .string ⟨#[]⟩, .string ⟨#[]⟩, .slice akm nkm ckm, .slice a1m n1m c1m, .slice a2m n2m c2m] 25) rfl)
    have HTM := Lib.hid (HMI.out.mono (mle_alloc (fr_le (m0_le _)) (.cells #[.int .i64 (oI om).kind, .string ⟨#[]⟩, .string ⟨#[]⟩, .slice akm nkm ckm, .slice a1m n1m c1m, .slice a2m n2m c2m] 25)))
    clear x0 x1 x2 x3 x4 x5 hk6
    generalize w10.alloc (.cells #[.int .i64 (oI om).kind, .string ⟨#[]⟩, .string ⟨#[]⟩, .slice akm nkm ckm, .slice a1m n1m c1m, .slice a2m n2m c2m] 25) = w11 at HQ11 HMB HTM ⊢
    have HINA := Lib.hid (fun (W : World) (kv' : Int) (tx' : ByteArray) (akv' : Option Addr) (nkv' ckv' : Nat) (a1v' : Option Addr) (n1v' c1v' : Nat) (kd' : Int) (ak' : Option Addr) (nk' ck' : Nat) (a1' : Option Addr) (n1' c1' : Nat) (a2' : Option Addr) (n2' c2' : Nat) (h3 : MV W.cell? (vlCells kv' tx' akv' nkv' ckv' a1v' n1v' c1v') (valOf v)) (h4 : MST W.cell? (stCells kd' ak' nk' ck' a1' n1' c1' a2' n2' c2') (kindOf ta)) => show Calls Tryz.prog 15 #[.agg #[.int .i64 kv', .string tx', .slice akv' nkv' ckv', .slice a1v' n1v' c1v'], .agg #[.int .i64 kd', .slice ak' nk' ck', .slice a1' n1' c1', .slice a2' n2' c2']] W (fun e w' => ∃ b, (b = true ↔ InP (kindOf ta) (valOf v)) ∧ e = .returned (.bool b) ∧ Below W.heap.size W w') from inB_any (by rw [kind_of (HPT.out trivial).1.1]; exact (pt_bt (HPT.out trivial).1.2).wt) (wv_of _ (HPV7.out trivial)) h3 h4)
    have HINB := Lib.hid (fun (W : World) (kv' : Int) (tx' : ByteArray) (akv' : Option Addr) (nkv' ckv' : Nat) (a1v' : Option Addr) (n1v' c1v' : Nat) (kd' : Int) (ak' : Option Addr) (nk' ck' : Nat) (a1' : Option Addr) (n1' c1' : Nat) (a2' : Option Addr) (n2' c2' : Nat) (h3 : MV W.cell? (vlCells kv' tx' akv' nkv' ckv' a1v' n1v' c1v') (valOf u)) (h4 : MST W.cell? (stCells kd' ak' nk' ck' a1' n1' c1' a2' n2' c2') (kindOf tb)) => show Calls Tryz.prog 15 #[.agg #[.int .i64 kv', .string tx', .slice akv' nkv' ckv', .slice a1v' n1v' c1v'], .agg #[.int .i64 kd', .slice ak' nk' ck', .slice a1' n1' c1', .slice a2' n2' c2']] W (fun e w' => ∃ b, (b = true ↔ InP (kindOf tb) (valOf u)) ∧ e = .returned (.bool b) ∧ Below W.heap.size W w') from inB_any (by rw [kind_of (HPT.out trivial).2.1]; exact (pt_bt (HPT.out trivial).2.2).wt) (wv_of _ (HPV9.out trivial)) h3 h4)
    have HDY := Lib.hid (fun (W : World) (kv' : Int) (tx' : ByteArray) (akv' : Option Addr) (nkv' ckv' : Nat) (a1v' : Option Addr) (n1v' c1v' : Nat) (kd' : Int) (ak' : Option Addr) (nk' ck' : Nat) (a1' : Option Addr) (n1' c1' : Nat) (a2' : Option Addr) (n2' c2' : Nat) (kd'' : Int) (ak'' : Option Addr) (nk'' ck'' : Nat) (a1'' : Option Addr) (n1'' c1'' : Nat) (a2'' : Option Addr) (n2'' c2'' : Nat) (h3 : MV W.cell? (vlCells kv' tx' akv' nkv' ckv' a1v' n1v' c1v') (valOf u)) (h4 : MST W.cell? (stCells kd' ak' nk' ck' a1' n1' c1' a2' n2' c2') (kindOf ta)) (h5 : MST W.cell? (stCells kd'' ak'' nk'' ck'' a1'' n1'' c1'' a2'' n2'' c2'') (kindOf tb)) => show Calls Tryz.prog 26 #[.agg #[.int .i64 kv', .string tx', .slice akv' nkv' ckv', .slice a1v' n1v' c1v'], .agg #[.int .i64 kd', .slice ak' nk' ck', .slice a1' n1' c1', .slice a2' n2' c2'], .agg #[.int .i64 kd'', .slice ak'' nk'' ck'', .slice a1'' n1'' c1'', .slice a2'' n2'' c2'']] W (DyQ (valOf u) (kindOf ta) (kindOf tb) W) from dynamic_any h3 h4 h5 (by rw [kind_of (HPT.out trivial).1.1]; exact (pt_bt (HPT.out trivial).1.2).wt.out.2.1) (by rw [kind_of (HPT.out trivial).2.1]; exact (pt_bt (HPT.out trivial).2.2).wt.out.2.1) (MLe.refl _))
    have HDP := Lib.hid (fun (W : World) (kd' : Int) (ak' : Option Addr) (nk' ck' : Nat) (a1' : Option Addr) (n1' c1' : Nat) (a2' : Option Addr) (n2' c2' : Nat) (kd'' : Int) (ak'' : Option Addr) (nk'' ck'' : Nat) (a1'' : Option Addr) (n1'' c1'' : Nat) (a2'' : Option Addr) (n2'' c2'' : Nat) (h4 : MST W.cell? (stCells kd' ak' nk' ck' a1' n1' c1' a2' n2' c2') (kindOf ta)) (h5 : MST W.cell? (stCells kd'' ak'' nk'' ck'' a1'' n1'' c1'' a2'' n2'' c2'') (kindOf tb)) => show Calls Tryz.prog 27 #[.agg #[.int .i64 kd', .slice ak' nk' ck', .slice a1' n1' c1', .slice a2' n2' c2'], .agg #[.int .i64 kd'', .slice ak'' nk'' ck'', .slice a1'' n1'' c1'', .slice a2'' n2'' c2'']] W (DpQ (kindOf ta) (kindOf tb) W) from deep_any h4 h5 (MLe.refl _))
    by_cases h6 : kdb = 6
    · have H6 := Lib.hid h6
      have h6b : (kdb == 6) = true := by simp [h6]
      have h6c : (kdb != 6) = false := by simp [h6]
      clear h6
      refine start_ (n := 51) (S := fun w' => w'.cell? ⟨w.heap.size, 0, none⟩ = some (.int .i64 kda) ∧ w'.cell? ⟨w.heap.size, 1, none⟩ = some (.string nma) ∧ w'.cell? ⟨w.heap.size, 2, none⟩ = some (.string txa) ∧ w'.cell? ⟨w.heap.size, 3, none⟩ = some (.slice aka nka cka) ∧ w'.cell? ⟨w.heap.size, 4, none⟩ = some (.slice a1a n1a c1a) ∧ w'.cell? ⟨w.heap.size, 5, none⟩ = some (.slice a2a n2a c2a) ∧ w'.cell? ⟨w.heap.size + 1, 0, none⟩ = some (.int .i64 kdb) ∧ w'.cell? ⟨w.heap.size + 1, 1, none⟩ = some (.string nmb) ∧ w'.cell? ⟨w.heap.size + 1, 2, none⟩ = some (.string txb) ∧ w'.cell? ⟨w.heap.size + 1, 3, none⟩ = some (.slice akb nkb ckb) ∧ w'.cell? ⟨w.heap.size + 1, 4, none⟩ = some (.slice a1b n1b c1b) ∧ w'.cell? ⟨w.heap.size + 1, 5, none⟩ = some (.slice a2b n2b c2b) ∧ w'.cell? ⟨w.heap.size + 1 + 1, 0, none⟩ = some (.int .i64 kdv) ∧ w'.cell? ⟨w.heap.size + 1 + 1, 1, none⟩ = some (.string txv) ∧ w'.cell? ⟨w.heap.size + 1 + 1, 2, none⟩ = some (.slice akv nkv ckv) ∧ w'.cell? ⟨w.heap.size + 1 + 1, 3, none⟩ = some (.slice a1v n1v c1v) ∧ w'.cell? ⟨w.heap.size + 1 + 1 + 1, 0, none⟩ = some (.int .i64 kdu) ∧ w'.cell? ⟨w.heap.size + 1 + 1 + 1, 1, none⟩ = some (.string txu) ∧ w'.cell? ⟨w.heap.size + 1 + 1 + 1, 2, none⟩ = some (.slice aku nku cku) ∧ w'.cell? ⟨w.heap.size + 1 + 1 + 1, 3, none⟩ = some (.slice a1u n1u c1u)) (ds := []) (lb 51 0) (by kernel_rfl) rfl rfl ⟨cell_blk HQ11.out.dr.a 0 rfl, cell_blk HQ11.out.dr.a 1 rfl, cell_blk HQ11.out.dr.a 2 rfl, cell_blk HQ11.out.dr.a 3 rfl, cell_blk HQ11.out.dr.a 4 rfl, cell_blk HQ11.out.dr.a 5 rfl, cell_blk HQ11.out.dr.b 0 rfl, cell_blk HQ11.out.dr.b 1 rfl, cell_blk HQ11.out.dr.b 2 rfl, cell_blk HQ11.out.dr.b 3 rfl, cell_blk HQ11.out.dr.b 4 rfl, cell_blk HQ11.out.dr.b 5 rfl, cell_blk HQ11.out.dr.v 0 rfl, cell_blk HQ11.out.dr.v 1 rfl, cell_blk HQ11.out.dr.v 2 rfl, cell_blk HQ11.out.dr.v 3 rfl, cell_blk HQ11.out.dr.u 0 rfl, cell_blk HQ11.out.dr.u 1 rfl, cell_blk HQ11.out.dr.u 2 rfl, cell_blk HQ11.out.dr.u 3 rfl⟩ (fun hHeld => ?_)
      refine pure_ (i := 0) (N := some 58) (v := ?_) (a' := ?_) (lb 51 1) rfl rfl (by kernel_rfl) (fun _ _ _ h => h) (Or.inl ⟨by rfl, ?_⟩) ?_ ?_
      rotate_left
      · intro w'
        go_simp
        with_reducible rfl
      rotate_left
      · simp only [Act.put, nrA, nrB, nrC, i64_w, i32_w]
        rfl
      refine pure_ (i := 1) (N := some 59) (v := ?_) (a' := ?_) (lb 51 3) rfl rfl (by kernel_rfl) (fun _ _ _ h => h) (Or.inl ⟨by rfl, ?_⟩) ?_ ?_
      rotate_left
      · intro w'
        go_simp
        with_reducible rfl
      rotate_left
      · simp only [Act.put, nrA, nrB, nrC, i64_w, i32_w]
        rfl
      refine pure_ (i := 2) (N := some 60) (v := ?_) (a' := ?_) (lb 51 7) rfl rfl (by kernel_rfl) (fun _ _ _ h => h) (Or.inl ⟨by rfl, ?_⟩) ?_ ?_
      rotate_left
      · intro w'
        go_simp
        with_reducible rfl
      rotate_left
      · simp only [Act.put, nrA, nrB, nrC, i64_w, i32_w]
        rfl
      refine pure_ (i := 3) (N := some 61) (v := ?_) (a' := ?_) (lb 51 15) rfl rfl (by kernel_rfl) (fun _ _ _ h => h) (Or.inl ⟨by rfl, ?_⟩) ?_ ?_
      rotate_left
      · intro w'
        go_simp
        with_reducible rfl
      rotate_left
      · simp only [Act.put, nrA, nrB, nrC, i64_w, i32_w]
        rfl
      refine take_ (i := 4) (N := some 62) (v := ?_) (a' := ?_) (lb 51 31) rfl rfl (by kernel_rfl) (fun _ _ _ h => h) (Or.inl ⟨by rfl, ?_⟩) hHeld ?_ ?_
      rotate_left
      · rintro w' ⟨s0, s1, s2, s3, s4, s5, s6, s7, s8, s9, s10, s11, s12, s13, s14, s15, s16, s17, s18, s19⟩
        go_simp
        with_reducible rfl
      rotate_left
      · simp only [Act.put, nrA, nrB, nrC, i64_w, i32_w]
        rfl
      refine pure_ (i := 5) (N := some 63) (v := ?_) (a' := ?_) (lb 51 63) rfl rfl (by kernel_rfl) (fun _ _ _ h => h) (Or.inl ⟨by rfl, ?_⟩) ?_ ?_
      rotate_left
      · intro w'
        go_simp
        with_reducible rfl
      rotate_left
      · simp only [Act.put, nrA, nrB, nrC, i64_w, i32_w]
        rfl
      refine pure_ (i := 6) (N := some 64) (v := ?_) (a' := ?_) (lb 51 127) rfl rfl (by kernel_rfl) (fun _ _ _ h => h) (Or.inl ⟨by rfl, ?_⟩) ?_ ?_
      rotate_left
      · intro w'
        go_simp
        with_reducible rfl
      rotate_left
      · simp only [Act.put, nrA, nrB, nrC, i64_w, i32_w]
        rfl
      refine pure_ (i := 7) (N := some 65) (v := ?_) (a' := ?_) (lb 51 255) rfl rfl (by kernel_rfl) (fun _ _ _ h => h) (Or.inl ⟨by rfl, ?_⟩) ?_ ?_
      rotate_left
      · intro w'
        go_simp
        with_reducible rfl
      rotate_left
      · simp only [Act.put, nrA, nrB, nrC, i64_w, i32_w]
        rfl
      refine take_ (i := 8) (N := some 66) (v := ?_) (a' := ?_) (lb 51 511) rfl rfl (by kernel_rfl) (fun _ _ _ h => h) (Or.inl ⟨by rfl, ?_⟩) hHeld ?_ ?_
      rotate_left
      · rintro w' ⟨s0, s1, s2, s3, s4, s5, s6, s7, s8, s9, s10, s11, s12, s13, s14, s15, s16, s17, s18, s19⟩
        go_simp
        with_reducible rfl
      rotate_left
      · simp only [Act.put, nrA, nrB, nrC, i64_w, i32_w]
        rfl
      refine take_ (i := 10) (N := some 68) (v := ?_) (a' := ?_) (lb 51 1535) rfl rfl (by kernel_rfl) (fun _ _ _ h => h) (Or.inl ⟨by rfl, ?_⟩) hHeld ?_ ?_
      rotate_left
      · rintro w' ⟨s0, s1, s2, s3, s4, s5, s6, s7, s8, s9, s10, s11, s12, s13, s14, s15, s16, s17, s18, s19⟩
        go_simp
        with_reducible rfl
      rotate_left
      · simp only [Act.put, nrA, nrB, nrC, i64_w, i32_w]
        rfl
      refine one_ (i := 9) (N := some 67) (lb 51 2047) rfl rfl (by kernel_rfl) (by decide) (fun K hK => ?_)
      have hQ11 := HQ11.out.dr
      have hM11 := HMB.out
      have hT11 := HTM.out.mono (mle_drew (MLe.refl _))
      refine goes_ Tryz.func14 (by kernel_rfl) rfl #[.agg #[.int .i64 kdv, .string txv, .slice akv nkv ckv, .slice a1v n1v c1v]] (by rfl) rfl rfl (by simp only [List.map_toArray, List.map_cons, List.map_nil]; rfl) ?_
      with_reducible refine (HVCv.out _ (HM.out.trans (mle_below hQ11.bel))).mono ?_
      rintro e w12 ⟨kd12, tx12, ak12, nk12, ck12, a112, n112, c112, rfl, hmv12, hb12⟩
      refine ⟨_, rfl, ?_⟩
      have hQ12 := hQ11.bl hb12
      have hM12 := bl_heap hb12 hM11
      have hT12 := hT11.mono (mle_below hb12)
      refine hK.out _ _ ⟨cell_blk hQ12.a 0 rfl, cell_blk hQ12.a 1 rfl, cell_blk hQ12.a 2 rfl, cell_blk hQ12.a 3 rfl, cell_blk hQ12.a 4 rfl, cell_blk hQ12.a 5 rfl, cell_blk hQ12.b 0 rfl, cell_blk hQ12.b 1 rfl, cell_blk hQ12.b 2 rfl, cell_blk hQ12.b 3 rfl, cell_blk hQ12.b 4 rfl, cell_blk hQ12.b 5 rfl, cell_blk hQ12.v 0 rfl, cell_blk hQ12.v 1 rfl, cell_blk hQ12.v 2 rfl, cell_blk hQ12.v 3 rfl, cell_blk hQ12.u 0 rfl, cell_blk hQ12.u 1 rfl, cell_blk hQ12.u 2 rfl, cell_blk hQ12.u 3 rfl⟩ (fun hHeld => ?_)
      clear hK K
      refine norm_ (a' := ?_) ?_ ?_
      rotate_left
      · show Act.put _ (some 67) _ = _
        simp only [Act.put, nrA, nrB, nrC, i64_w, i32_w]
        rfl
      refine one_ (i := 11) (N := some 69) (lb 51 4095) rfl rfl (by kernel_rfl) (by decide) (fun K hK => ?_)
      refine goes_ Tryz.func16 (by kernel_rfl) rfl #[.agg #[.int .i64 kda, .string nma, .string txa, .slice aka nka cka, .slice a1a n1a c1a, .slice a2a n2a c2a]] (by rfl) rfl rfl (by simp only [List.map_toArray, List.map_cons, List.map_nil]; rfl) ?_
      with_reducible refine (HKCa.out _ (HM.out.trans (mle_below hQ12.bel))).mono ?_
      rintro e w13 ⟨kd13, ak13, nk13, ck13, a113, n113, c113, a213, n213, c213, rfl, hmt13, hb13⟩
      refine ⟨_, rfl, ?_⟩
      have hQ13 := hQ12.bl hb13
      have hM13 := bl_heap hb13 hM12
      have hT13 := hT12.mono (mle_below hb13)
      refine hK.out _ _ ⟨cell_blk hQ13.a 0 rfl, cell_blk hQ13.a 1 rfl, cell_blk hQ13.a 2 rfl, cell_blk hQ13.a 3 rfl, cell_blk hQ13.a 4 rfl, cell_blk hQ13.a 5 rfl, cell_blk hQ13.b 0 rfl, cell_blk hQ13.b 1 rfl, cell_blk hQ13.b 2 rfl, cell_blk hQ13.b 3 rfl, cell_blk hQ13.b 4 rfl, cell_blk hQ13.b 5 rfl, cell_blk hQ13.v 0 rfl, cell_blk hQ13.v 1 rfl, cell_blk hQ13.v 2 rfl, cell_blk hQ13.v 3 rfl, cell_blk hQ13.u 0 rfl, cell_blk hQ13.u 1 rfl, cell_blk hQ13.u 2 rfl, cell_blk hQ13.u 3 rfl⟩ (fun hHeld => ?_)
      clear hK K
      refine norm_ (a' := ?_) ?_ ?_
      rotate_left
      · show Act.put _ (some 69) _ = _
        simp only [Act.put, nrA, nrB, nrC, i64_w, i32_w]
        rfl
      refine one_ (i := 12) (N := some 70) (lb 51 8191) rfl rfl (by kernel_rfl) (by decide) (fun K hK => ?_)
      refine goes_ Tryz.func15 (by kernel_rfl) rfl #[.agg #[.int .i64 kd12, .string tx12, .slice ak12 nk12 ck12, .slice a112 n112 c112], .agg #[.int .i64 kd13, .slice ak13 nk13 ck13, .slice a113 n113 c113, .slice a213 n213 c213]] (by rfl) rfl rfl (by simp only [List.map_toArray, List.map_cons, List.map_nil]; rfl) ?_
      with_reducible refine (HINA.out _ _ _ _ _ _ _ _ _ _ _ _ _ _ _ _ _ _ _ (hmv12.mono ((fr_le (HM.out.trans (mle_below hQ12.bel))).trans (mle_below hb13))) (hmt13.mono (fr_le (HM.out.trans (mle_below hQ13.bel))))).mono ?_
      rintro e w14 ⟨b14, hi14, rfl, hb14⟩
      refine ⟨_, rfl, ?_⟩
      have hQ14 := hQ13.bl hb14
      have hM14 := bl_heap hb14 hM13
      have hT14 := hT13.mono (mle_below hb14)
      cases b14
      · clear hi14
        refine hK.out _ _ ⟨cell_blk hQ14.a 0 rfl, cell_blk hQ14.a 1 rfl, cell_blk hQ14.a 2 rfl, cell_blk hQ14.a 3 rfl, cell_blk hQ14.a 4 rfl, cell_blk hQ14.a 5 rfl, cell_blk hQ14.b 0 rfl, cell_blk hQ14.b 1 rfl, cell_blk hQ14.b 2 rfl, cell_blk hQ14.b 3 rfl, cell_blk hQ14.b 4 rfl, cell_blk hQ14.b 5 rfl, cell_blk hQ14.v 0 rfl, cell_blk hQ14.v 1 rfl, cell_blk hQ14.v 2 rfl, cell_blk hQ14.v 3 rfl, cell_blk hQ14.u 0 rfl, cell_blk hQ14.u 1 rfl, cell_blk hQ14.u 2 rfl, cell_blk hQ14.u 3 rfl⟩ (fun hHeld => ?_)
        clear hK K
        refine norm_ (a' := ?_) ?_ ?_
        rotate_left
        · show Act.put _ (some 70) _ = _
          simp only [Act.put, nrA, nrB, nrC, i64_w, i32_w]
          rfl
        refine pure_ (i := 13) (N := some 71) (v := ?_) (a' := ?_) (lb 51 16383) rfl rfl (by kernel_rfl) (fun _ _ _ h => h) (Or.inl ⟨by rfl, ?_⟩) ?_ ?_
        rotate_left
        · intro w'
          go_simp
          with_reducible rfl
        rotate_left
        · simp only [Act.put, nrA, nrB, nrC, i64_w, i32_w]
          rfl
        refine pure_ (i := 14) (N := some 72) (v := ?_) (a' := ?_) (lb 51 32767) rfl rfl (by kernel_rfl) (fun _ _ _ h => h) (Or.inl ⟨by rfl, ?_⟩) ?_ ?_
        rotate_left
        · intro w'
          go_simp
          with_reducible rfl
        rotate_left
        · simp only [Act.put, nrA, nrB, nrC, i64_w, i32_w]
          rfl
        refine pure_ (i := 15) (N := some 73) (v := ?_) (a' := ?_) (lb 51 65535) rfl rfl (by kernel_rfl) (fun _ _ _ h => h) (Or.inl ⟨by rfl, ?_⟩) ?_ ?_
        rotate_left
        · intro w'
          go_simp
          with_reducible rfl
        rotate_left
        · simp only [Act.put, nrA, nrB, nrC, i64_w, i32_w]
          rfl
        refine pure_ (i := 16) (N := some 74) (v := undef) (a' := ?_) (lb 51 131071) rfl rfl (by kernel_rfl) (fun _ _ _ h => h) (Or.inr ⟨by rfl, rfl⟩) ?_ ?_
        rotate_left
        · simp only [Act.put, nrA, nrB, nrC, i64_w, i32_w]
          rfl
        refine pure_ (i := 17) (N := some 75) (v := undef) (a' := ?_) (lb 51 262143) rfl rfl (by kernel_rfl) (fun _ _ _ h => h) (Or.inr ⟨by rfl, rfl⟩) ?_ ?_
        rotate_left
        · simp only [Act.put, nrA, nrB, nrC, i64_w, i32_w]
          rfl
        refine pure_ (i := 18) (N := some 76) (v := undef) (a' := ?_) (lb 51 524287) rfl rfl (by kernel_rfl) (fun _ _ _ h => h) (Or.inr ⟨by rfl, rfl⟩) ?_ ?_
        rotate_left
        · simp only [Act.put, nrA, nrB, nrC, i64_w, i32_w]
          rfl
        refine pure_ (i := 19) (N := some 77) (v := undef) (a' := ?_) (lb 51 1048575) rfl rfl (by kernel_rfl) (fun _ _ _ h => h) (Or.inr ⟨by rfl, rfl⟩) ?_ ?_
        rotate_left
        · simp only [Act.put, nrA, nrB, nrC, i64_w, i32_w]
          rfl
        refine pure_ (i := 20) (N := some 78) (v := undef) (a' := ?_) (lb 51 2097151) rfl rfl (by kernel_rfl) (fun _ _ _ h => h) (Or.inr ⟨by rfl, rfl⟩) ?_ ?_
        rotate_left
        · simp only [Act.put, nrA, nrB, nrC, i64_w, i32_w]
          rfl
        refine pure_ (i := 21) (N := some 79) (v := undef) (a' := ?_) (lb 51 4194303) rfl rfl (by kernel_rfl) (fun _ _ _ h => h) (Or.inr ⟨by rfl, rfl⟩) ?_ ?_
        rotate_left
        · simp only [Act.put, nrA, nrB, nrC, i64_w, i32_w]
          rfl
        refine pure_ (i := 22) (N := some 80) (v := ?_) (a' := ?_) (lb 51 8388607) rfl rfl (by kernel_rfl) (fun _ _ _ h => h) (Or.inl ⟨by rfl, ?_⟩) ?_ ?_
        rotate_left
        · intro w'
          go_simp
          with_reducible rfl
        rotate_left
        · simp only [Act.put, nrA, nrB, nrC, i64_w, i32_w]
          rfl
        refine pure_ (i := 23) (N := some 81) (v := ?_) (a' := ?_) (lb 51 16777215) rfl rfl (by kernel_rfl) (fun _ _ _ h => h) (Or.inl ⟨by rfl, ?_⟩) ?_ ?_
        rotate_left
        · intro w'
          go_simp
          with_reducible rfl
        rotate_left
        · simp only [Act.put, nrA, nrB, nrC, i64_w, i32_w]
          rfl
        refine pure_ (i := 24) (N := some 82) (v := undef) (a' := ?_) (lb 51 33554431) rfl rfl (by kernel_rfl) (fun _ _ _ h => h) (Or.inr ⟨by rfl, rfl⟩) ?_ ?_
        rotate_left
        · simp only [Act.put, nrA, nrB, nrC, i64_w, i32_w]
          rfl
        refine pure_ (i := 25) (N := some 83) (v := undef) (a' := ?_) (lb 51 67108863) rfl rfl (by kernel_rfl) (fun _ _ _ h => h) (Or.inr ⟨by rfl, rfl⟩) ?_ ?_
        rotate_left
        · simp only [Act.put, nrA, nrB, nrC, i64_w, i32_w]
          rfl
        refine pure_ (i := 26) (N := some 84) (v := undef) (a' := ?_) (lb 51 134217727) rfl rfl (by kernel_rfl) (fun _ _ _ h => h) (Or.inr ⟨by rfl, rfl⟩) ?_ ?_
        rotate_left
        · simp only [Act.put, nrA, nrB, nrC, i64_w, i32_w]
          rfl
        refine pure_ (i := 27) (N := some 85) (v := undef) (a' := ?_) (lb 51 268435455) rfl rfl (by kernel_rfl) (fun _ _ _ h => h) (Or.inr ⟨by rfl, rfl⟩) ?_ ?_
        rotate_left
        · simp only [Act.put, nrA, nrB, nrC, i64_w, i32_w]
          rfl
        refine pure_ (i := 28) (N := some 86) (v := undef) (a' := ?_) (lb 51 536870911) rfl rfl (by kernel_rfl) (fun _ _ _ h => h) (Or.inr ⟨by rfl, rfl⟩) ?_ ?_
        rotate_left
        · simp only [Act.put, nrA, nrB, nrC, i64_w, i32_w]
          rfl
        refine pure_ (i := 29) (N := some 87) (v := undef) (a' := ?_) (lb 51 1073741823) rfl rfl (by kernel_rfl) (fun _ _ _ h => h) (Or.inr ⟨by rfl, rfl⟩) ?_ ?_
        rotate_left
        · simp only [Act.put, nrA, nrB, nrC, i64_w, i32_w]
          rfl
        refine pure_ (i := 30) (N := some 88) (v := undef) (a' := ?_) (lb 51 2147483647) rfl rfl (by kernel_rfl) (fun _ _ _ h => h) (Or.inr ⟨by rfl, rfl⟩) ?_ ?_
        rotate_left
        · simp only [Act.put, nrA, nrB, nrC, i64_w, i32_w]
          rfl
        refine pure_ (i := 31) (N := some 89) (v := ?_) (a' := ?_) (lb 51 4294967295) rfl rfl (by kernel_rfl) (fun _ _ _ h => h) (Or.inl ⟨by rfl, ?_⟩) ?_ ?_
        rotate_left
        · intro w'
          go_simp
          with_reducible rfl
        rotate_left
        · simp only [Act.put, nrA, nrB, nrC, i64_w, i32_w]
          rfl
        refine pure_ (i := 32) (N := some 90) (v := ?_) (a' := ?_) (lb 51 8589934591) rfl rfl (by kernel_rfl) (fun _ _ _ h => h) (Or.inl ⟨by rfl, ?_⟩) ?_ ?_
        rotate_left
        · intro w'
          go_simp
          with_reducible rfl
        rotate_left
        · simp only [Act.put, nrA, nrB, nrC, i64_w, i32_w]
          rfl
        refine pure_ (i := 33) (N := some 91) (v := undef) (a' := ?_) (lb 51 17179869183) rfl rfl (by kernel_rfl) (fun _ _ _ h => h) (Or.inr ⟨by rfl, rfl⟩) ?_ ?_
        rotate_left
        · simp only [Act.put, nrA, nrB, nrC, i64_w, i32_w]
          rfl
        refine pure_ (i := 34) (N := some 92) (v := undef) (a' := ?_) (lb 51 34359738367) rfl rfl (by kernel_rfl) (fun _ _ _ h => h) (Or.inr ⟨by rfl, rfl⟩) ?_ ?_
        rotate_left
        · simp only [Act.put, nrA, nrB, nrC, i64_w, i32_w]
          rfl
        refine pure_ (i := 35) (N := some 93) (v := undef) (a' := ?_) (lb 51 68719476735) rfl rfl (by kernel_rfl) (fun _ _ _ h => h) (Or.inr ⟨by rfl, rfl⟩) ?_ ?_
        rotate_left
        · simp only [Act.put, nrA, nrB, nrC, i64_w, i32_w]
          rfl
        refine pure_ (i := 36) (N := some 94) (v := undef) (a' := ?_) (lb 51 137438953471) rfl rfl (by kernel_rfl) (fun _ _ _ h => h) (Or.inr ⟨by rfl, rfl⟩) ?_ ?_
        rotate_left
        · simp only [Act.put, nrA, nrB, nrC, i64_w, i32_w]
          rfl
        refine pure_ (i := 37) (N := some 95) (v := undef) (a' := ?_) (lb 51 274877906943) rfl rfl (by kernel_rfl) (fun _ _ _ h => h) (Or.inr ⟨by rfl, rfl⟩) ?_ ?_
        rotate_left
        · simp only [Act.put, nrA, nrB, nrC, i64_w, i32_w]
          rfl
        refine pure_ (i := 38) (N := some 96) (v := ?_) (a' := ?_) (lb 51 549755813887) rfl rfl (by kernel_rfl) (fun _ _ _ h => h) (Or.inl ⟨by rfl, ?_⟩) ?_ ?_
        rotate_left
        · intro w'
          go_simp
          with_reducible rfl
        rotate_left
        · simp only [Act.put, nrA, nrB, nrC, i64_w, i32_w]
          rfl
        refine pure_ (i := 39) (N := some 97) (v := ?_) (a' := ?_) (lb 51 1099511627775) rfl rfl (by kernel_rfl) (fun _ _ _ h => h) (Or.inl ⟨by rfl, ?_⟩) ?_ ?_
        rotate_left
        · intro w'
          go_simp
          with_reducible rfl
        rotate_left
        · simp only [Act.put, nrA, nrB, nrC, i64_w, i32_w]
          rfl
        refine pure_ (i := 40) (N := some 98) (v := undef) (a' := ?_) (lb 51 2199023255551) rfl rfl (by kernel_rfl) (fun _ _ _ h => h) (Or.inr ⟨by rfl, rfl⟩) ?_ ?_
        rotate_left
        · simp only [Act.put, nrA, nrB, nrC, i64_w, i32_w]
          rfl
        refine pure_ (i := 41) (N := some 99) (v := undef) (a' := ?_) (lb 51 4398046511103) rfl rfl (by kernel_rfl) (fun _ _ _ h => h) (Or.inr ⟨by rfl, rfl⟩) ?_ ?_
        rotate_left
        · simp only [Act.put, nrA, nrB, nrC, i64_w, i32_w]
          rfl
        refine pure_ (i := 42) (N := some 100) (v := undef) (a' := ?_) (lb 51 8796093022207) rfl rfl (by kernel_rfl) (fun _ _ _ h => h) (Or.inr ⟨by rfl, rfl⟩) ?_ ?_
        rotate_left
        · simp only [Act.put, nrA, nrB, nrC, i64_w, i32_w]
          rfl
        refine pure_ (i := 43) (N := some 101) (v := undef) (a' := ?_) (lb 51 17592186044415) rfl rfl (by kernel_rfl) (fun _ _ _ h => h) (Or.inr ⟨by rfl, rfl⟩) ?_ ?_
        rotate_left
        · simp only [Act.put, nrA, nrB, nrC, i64_w, i32_w]
          rfl
        refine pure_ (i := 44) (N := some 102) (v := undef) (a' := ?_) (lb 51 35184372088831) rfl rfl (by kernel_rfl) (fun _ _ _ h => h) (Or.inr ⟨by rfl, rfl⟩) ?_ ?_
        rotate_left
        · simp only [Act.put, nrA, nrB, nrC, i64_w, i32_w]
          rfl
        refine pure_ (i := 45) (N := some 103) (v := undef) (a' := ?_) (lb 51 70368744177663) rfl rfl (by kernel_rfl) (fun _ _ _ h => h) (Or.inr ⟨by rfl, rfl⟩) ?_ ?_
        rotate_left
        · simp only [Act.put, nrA, nrB, nrC, i64_w, i32_w]
          rfl
        refine pure_ (i := 46) (N := some 104) (v := undef) (a' := ?_) (lb 51 140737488355327) rfl rfl (by kernel_rfl) (fun _ _ _ h => h) (Or.inr ⟨by rfl, rfl⟩) ?_ ?_
        rotate_left
        · simp only [Act.put, nrA, nrB, nrC, i64_w, i32_w]
          rfl
        refine pure_ (i := 47) (N := some 105) (v := undef) (a' := ?_) (lb 51 281474976710655) rfl rfl (by kernel_rfl) (fun _ _ _ h => h) (Or.inr ⟨by rfl, rfl⟩) ?_ ?_
        rotate_left
        · simp only [Act.put, nrA, nrB, nrC, i64_w, i32_w]
          rfl
        refine pure_ (i := 48) (N := some 106) (v := undef) (a' := ?_) (lb 51 562949953421311) rfl rfl (by kernel_rfl) (fun _ _ _ h => h) (Or.inr ⟨by rfl, rfl⟩) ?_ ?_
        rotate_left
        · simp only [Act.put, nrA, nrB, nrC, i64_w, i32_w]
          rfl
        refine pure_ (i := 49) (N := some 107) (v := undef) (a' := ?_) (lb 51 1125899906842623) rfl rfl (by kernel_rfl) (fun _ _ _ h => h) (Or.inr ⟨by rfl, rfl⟩) ?_ ?_
        rotate_left
        · simp only [Act.put, nrA, nrB, nrC, i64_w, i32_w]
          rfl
        refine pure_ (i := 50) (N := some 108) (v := ?_) (a' := ?_) (lb 51 2251799813685247) rfl rfl (by kernel_rfl) (fun _ _ _ h => h) (Or.inl ⟨by rfl, ?_⟩) ?_ ?_
        rotate_left
        · intro w'
          go_simp
          with_reducible rfl
        rotate_left
        · simp only [Act.put, nrA, nrB, nrC, i64_w, i32_w]
          rfl
        refine done_ (by kernel_rfl) ?_
        have HBE := Lib.hid hQ14.bel
        clear hHeld hQ11 hM11 hT11 hmv12 hb12 hQ12 hM12 hT12 hmt13 hb13 hQ13 hM13 hT13 hb14 hQ14 hM14 hT14
        go_wp2_with (go_at_call 17; refine (works_any _).mono ?_; rintro e wz ⟨rfl, hgz⟩; have HBZ := Lib.hid (bl_trans HBE.out hgz.below); clear hgz)
        go_ret
        exact ⟨rfl, HBZ.out⟩
      · replace hi14 := Lib.hid (hi14.1 rfl)
        refine hK.out _ _ ⟨cell_blk hQ14.a 0 rfl, cell_blk hQ14.a 1 rfl, cell_blk hQ14.a 2 rfl, cell_blk hQ14.a 3 rfl, cell_blk hQ14.a 4 rfl, cell_blk hQ14.a 5 rfl, cell_blk hQ14.b 0 rfl, cell_blk hQ14.b 1 rfl, cell_blk hQ14.b 2 rfl, cell_blk hQ14.b 3 rfl, cell_blk hQ14.b 4 rfl, cell_blk hQ14.b 5 rfl, cell_blk hQ14.v 0 rfl, cell_blk hQ14.v 1 rfl, cell_blk hQ14.v 2 rfl, cell_blk hQ14.v 3 rfl, cell_blk hQ14.u 0 rfl, cell_blk hQ14.u 1 rfl, cell_blk hQ14.u 2 rfl, cell_blk hQ14.u 3 rfl⟩ (fun hHeld => ?_)
        clear hK K
        refine norm_ (a' := ?_) ?_ ?_
        rotate_left
        · show Act.put _ (some 70) _ = _
          simp only [Act.put, nrA, nrB, nrC, i64_w, i32_w]
          rfl
        refine pure_ (i := 13) (N := some 71) (v := ?_) (a' := ?_) (lb 51 16383) rfl rfl (by kernel_rfl) (fun _ _ _ h => h) (Or.inl ⟨by rfl, ?_⟩) ?_ ?_
        rotate_left
        · intro w'
          go_simp
          with_reducible rfl
        rotate_left
        · simp only [Act.put, nrA, nrB, nrC, i64_w, i32_w]
          rfl
        refine pure_ (i := 14) (N := some 72) (v := ?_) (a' := ?_) (lb 51 32767) rfl rfl (by kernel_rfl) (fun _ _ _ h => h) (Or.inl ⟨by rfl, ?_⟩) ?_ ?_
        rotate_left
        · intro w'
          go_simp
          with_reducible rfl
        rotate_left
        · simp only [Act.put, nrA, nrB, nrC, i64_w, i32_w]
          rfl
        refine pure_ (i := 15) (N := some 73) (v := ?_) (a' := ?_) (lb 51 65535) rfl rfl (by kernel_rfl) (fun _ _ _ h => h) (Or.inl ⟨by rfl, ?_⟩) ?_ ?_
        rotate_left
        · intro w'
          go_simp
          with_reducible rfl
        rotate_left
        · simp only [Act.put, nrA, nrB, nrC, i64_w, i32_w]
          rfl
        refine take_ (i := 16) (N := some 74) (v := ?_) (a' := ?_) (lb 51 131071) rfl rfl (by kernel_rfl) (fun _ _ _ h => h) (Or.inl ⟨by rfl, ?_⟩) hHeld ?_ ?_
        rotate_left
        · rintro w' ⟨s0, s1, s2, s3, s4, s5, s6, s7, s8, s9, s10, s11, s12, s13, s14, s15, s16, s17, s18, s19⟩
          go_simp
          with_reducible rfl
        rotate_left
        · simp only [Act.put, nrA, nrB, nrC, i64_w, i32_w]
          rfl
        refine take_ (i := 18) (N := some 76) (v := ?_) (a' := ?_) (lb 51 393215) rfl rfl (by kernel_rfl) (fun _ _ _ h => h) (Or.inl ⟨by rfl, ?_⟩) hHeld ?_ ?_
        rotate_left
        · rintro w' ⟨s0, s1, s2, s3, s4, s5, s6, s7, s8, s9, s10, s11, s12, s13, s14, s15, s16, s17, s18, s19⟩
          go_simp
          with_reducible rfl
        rotate_left
        · simp only [Act.put, nrA, nrB, nrC, i64_w, i32_w]
          rfl
        refine one_ (i := 17) (N := some 75) (lb 51 524287) rfl rfl (by kernel_rfl) (by decide) (fun K hK => ?_)
        refine goes_ Tryz.func14 (by kernel_rfl) rfl #[.agg #[.int .i64 kdu, .string txu, .slice aku nku cku, .slice a1u n1u c1u]] (by rfl) rfl rfl (by simp only [List.map_toArray, List.map_cons, List.map_nil]; rfl) ?_
        with_reducible refine (HVCu.out _ (HM.out.trans (mle_below hQ14.bel))).mono ?_
        rintro e w15 ⟨kd15, tx15, ak15, nk15, ck15, a115, n115, c115, rfl, hmv15, hb15⟩
        refine ⟨_, rfl, ?_⟩
        have hQ15 := hQ14.bl hb15
        have hM15 := bl_heap hb15 hM14
        have hT15 := hT14.mono (mle_below hb15)
        refine hK.out _ _ ⟨cell_blk hQ15.a 0 rfl, cell_blk hQ15.a 1 rfl, cell_blk hQ15.a 2 rfl, cell_blk hQ15.a 3 rfl, cell_blk hQ15.a 4 rfl, cell_blk hQ15.a 5 rfl, cell_blk hQ15.b 0 rfl, cell_blk hQ15.b 1 rfl, cell_blk hQ15.b 2 rfl, cell_blk hQ15.b 3 rfl, cell_blk hQ15.b 4 rfl, cell_blk hQ15.b 5 rfl, cell_blk hQ15.v 0 rfl, cell_blk hQ15.v 1 rfl, cell_blk hQ15.v 2 rfl, cell_blk hQ15.v 3 rfl, cell_blk hQ15.u 0 rfl, cell_blk hQ15.u 1 rfl, cell_blk hQ15.u 2 rfl, cell_blk hQ15.u 3 rfl⟩ (fun hHeld => ?_)
        clear hK K
        refine norm_ (a' := ?_) ?_ ?_
        rotate_left
        · show Act.put _ (some 75) _ = _
          simp only [Act.put, nrA, nrB, nrC, i64_w, i32_w]
          rfl
        refine one_ (i := 19) (N := some 77) (lb 51 1048575) rfl rfl (by kernel_rfl) (by decide) (fun K hK => ?_)
        refine goes_ Tryz.func16 (by kernel_rfl) rfl #[.agg #[.int .i64 kdb, .string nmb, .string txb, .slice akb nkb ckb, .slice a1b n1b c1b, .slice a2b n2b c2b]] (by rfl) rfl rfl (by simp only [List.map_toArray, List.map_cons, List.map_nil]; rfl) ?_
        with_reducible refine (HKCb.out _ (HM.out.trans (mle_below hQ15.bel))).mono ?_
        rintro e w16 ⟨kd16, ak16, nk16, ck16, a116, n116, c116, a216, n216, c216, rfl, hmt16, hb16⟩
        refine ⟨_, rfl, ?_⟩
        have hQ16 := hQ15.bl hb16
        have hM16 := bl_heap hb16 hM15
        have hT16 := hT15.mono (mle_below hb16)
        refine hK.out _ _ ⟨cell_blk hQ16.a 0 rfl, cell_blk hQ16.a 1 rfl, cell_blk hQ16.a 2 rfl, cell_blk hQ16.a 3 rfl, cell_blk hQ16.a 4 rfl, cell_blk hQ16.a 5 rfl, cell_blk hQ16.b 0 rfl, cell_blk hQ16.b 1 rfl, cell_blk hQ16.b 2 rfl, cell_blk hQ16.b 3 rfl, cell_blk hQ16.b 4 rfl, cell_blk hQ16.b 5 rfl, cell_blk hQ16.v 0 rfl, cell_blk hQ16.v 1 rfl, cell_blk hQ16.v 2 rfl, cell_blk hQ16.v 3 rfl, cell_blk hQ16.u 0 rfl, cell_blk hQ16.u 1 rfl, cell_blk hQ16.u 2 rfl, cell_blk hQ16.u 3 rfl⟩ (fun hHeld => ?_)
        clear hK K
        refine norm_ (a' := ?_) ?_ ?_
        rotate_left
        · show Act.put _ (some 77) _ = _
          simp only [Act.put, nrA, nrB, nrC, i64_w, i32_w]
          rfl
        refine one_ (i := 20) (N := some 78) (lb 51 2097151) rfl rfl (by kernel_rfl) (by decide) (fun K hK => ?_)
        refine goes_ Tryz.func15 (by kernel_rfl) rfl #[.agg #[.int .i64 kd15, .string tx15, .slice ak15 nk15 ck15, .slice a115 n115 c115], .agg #[.int .i64 kd16, .slice ak16 nk16 ck16, .slice a116 n116 c116, .slice a216 n216 c216]] (by rfl) rfl rfl (by simp only [List.map_toArray, List.map_cons, List.map_nil]; rfl) ?_
        with_reducible refine (HINB.out _ _ _ _ _ _ _ _ _ _ _ _ _ _ _ _ _ _ _ (hmv15.mono ((fr_le (HM.out.trans (mle_below hQ15.bel))).trans (mle_below hb16))) (hmt16.mono (fr_le (HM.out.trans (mle_below hQ16.bel))))).mono ?_
        rintro e w17 ⟨b17, hi17, rfl, hb17⟩
        refine ⟨_, rfl, ?_⟩
        have hQ17 := hQ16.bl hb17
        have hM17 := bl_heap hb17 hM16
        have hT17 := hT16.mono (mle_below hb17)
        cases b17
        · clear hi17
          refine hK.out _ _ ⟨cell_blk hQ17.a 0 rfl, cell_blk hQ17.a 1 rfl, cell_blk hQ17.a 2 rfl, cell_blk hQ17.a 3 rfl, cell_blk hQ17.a 4 rfl, cell_blk hQ17.a 5 rfl, cell_blk hQ17.b 0 rfl, cell_blk hQ17.b 1 rfl, cell_blk hQ17.b 2 rfl, cell_blk hQ17.b 3 rfl, cell_blk hQ17.b 4 rfl, cell_blk hQ17.b 5 rfl, cell_blk hQ17.v 0 rfl, cell_blk hQ17.v 1 rfl, cell_blk hQ17.v 2 rfl, cell_blk hQ17.v 3 rfl, cell_blk hQ17.u 0 rfl, cell_blk hQ17.u 1 rfl, cell_blk hQ17.u 2 rfl, cell_blk hQ17.u 3 rfl⟩ (fun hHeld => ?_)
          clear hK K
          refine norm_ (a' := ?_) ?_ ?_
          rotate_left
          · show Act.put _ (some 78) _ = _
            simp only [Act.put, nrA, nrB, nrC, i64_w, i32_w]
            rfl
          refine pure_ (i := 21) (N := some 79) (v := ?_) (a' := ?_) (lb 51 4194303) rfl rfl (by kernel_rfl) (fun _ _ _ h => h) (Or.inl ⟨by rfl, ?_⟩) ?_ ?_
          rotate_left
          · intro w'
            go_simp
            with_reducible rfl
          rotate_left
          · simp only [Act.put, nrA, nrB, nrC, i64_w, i32_w]
            rfl
          refine pure_ (i := 22) (N := some 80) (v := ?_) (a' := ?_) (lb 51 8388607) rfl rfl (by kernel_rfl) (fun _ _ _ h => h) (Or.inl ⟨by rfl, ?_⟩) ?_ ?_
          rotate_left
          · intro w'
            go_simp
            with_reducible rfl
          rotate_left
          · simp only [Act.put, nrA, nrB, nrC, i64_w, i32_w]
            rfl
          refine pure_ (i := 23) (N := some 81) (v := ?_) (a' := ?_) (lb 51 16777215) rfl rfl (by kernel_rfl) (fun _ _ _ h => h) (Or.inl ⟨by rfl, ?_⟩) ?_ ?_
          rotate_left
          · intro w'
            go_simp
            with_reducible rfl
          rotate_left
          · simp only [Act.put, nrA, nrB, nrC, i64_w, i32_w]
            rfl
          refine pure_ (i := 24) (N := some 82) (v := undef) (a' := ?_) (lb 51 33554431) rfl rfl (by kernel_rfl) (fun _ _ _ h => h) (Or.inr ⟨by rfl, rfl⟩) ?_ ?_
          rotate_left
          · simp only [Act.put, nrA, nrB, nrC, i64_w, i32_w]
            rfl
          refine pure_ (i := 25) (N := some 83) (v := undef) (a' := ?_) (lb 51 67108863) rfl rfl (by kernel_rfl) (fun _ _ _ h => h) (Or.inr ⟨by rfl, rfl⟩) ?_ ?_
          rotate_left
          · simp only [Act.put, nrA, nrB, nrC, i64_w, i32_w]
            rfl
          refine pure_ (i := 26) (N := some 84) (v := undef) (a' := ?_) (lb 51 134217727) rfl rfl (by kernel_rfl) (fun _ _ _ h => h) (Or.inr ⟨by rfl, rfl⟩) ?_ ?_
          rotate_left
          · simp only [Act.put, nrA, nrB, nrC, i64_w, i32_w]
            rfl
          refine pure_ (i := 27) (N := some 85) (v := undef) (a' := ?_) (lb 51 268435455) rfl rfl (by kernel_rfl) (fun _ _ _ h => h) (Or.inr ⟨by rfl, rfl⟩) ?_ ?_
          rotate_left
          · simp only [Act.put, nrA, nrB, nrC, i64_w, i32_w]
            rfl
          refine pure_ (i := 28) (N := some 86) (v := undef) (a' := ?_) (lb 51 536870911) rfl rfl (by kernel_rfl) (fun _ _ _ h => h) (Or.inr ⟨by rfl, rfl⟩) ?_ ?_
          rotate_left
          · simp only [Act.put, nrA, nrB, nrC, i64_w, i32_w]
            rfl
          refine pure_ (i := 29) (N := some 87) (v := undef) (a' := ?_) (lb 51 1073741823) rfl rfl (by kernel_rfl) (fun _ _ _ h => h) (Or.inr ⟨by rfl, rfl⟩) ?_ ?_
          rotate_left
          · simp only [Act.put, nrA, nrB, nrC, i64_w, i32_w]
            rfl
          refine pure_ (i := 30) (N := some 88) (v := undef) (a' := ?_) (lb 51 2147483647) rfl rfl (by kernel_rfl) (fun _ _ _ h => h) (Or.inr ⟨by rfl, rfl⟩) ?_ ?_
          rotate_left
          · simp only [Act.put, nrA, nrB, nrC, i64_w, i32_w]
            rfl
          refine pure_ (i := 31) (N := some 89) (v := ?_) (a' := ?_) (lb 51 4294967295) rfl rfl (by kernel_rfl) (fun _ _ _ h => h) (Or.inl ⟨by rfl, ?_⟩) ?_ ?_
          rotate_left
          · intro w'
            go_simp
            with_reducible rfl
          rotate_left
          · simp only [Act.put, nrA, nrB, nrC, i64_w, i32_w]
            rfl
          refine pure_ (i := 32) (N := some 90) (v := ?_) (a' := ?_) (lb 51 8589934591) rfl rfl (by kernel_rfl) (fun _ _ _ h => h) (Or.inl ⟨by rfl, ?_⟩) ?_ ?_
          rotate_left
          · intro w'
            go_simp
            with_reducible rfl
          rotate_left
          · simp only [Act.put, nrA, nrB, nrC, i64_w, i32_w]
            rfl
          refine pure_ (i := 33) (N := some 91) (v := undef) (a' := ?_) (lb 51 17179869183) rfl rfl (by kernel_rfl) (fun _ _ _ h => h) (Or.inr ⟨by rfl, rfl⟩) ?_ ?_
          rotate_left
          · simp only [Act.put, nrA, nrB, nrC, i64_w, i32_w]
            rfl
          refine pure_ (i := 34) (N := some 92) (v := undef) (a' := ?_) (lb 51 34359738367) rfl rfl (by kernel_rfl) (fun _ _ _ h => h) (Or.inr ⟨by rfl, rfl⟩) ?_ ?_
          rotate_left
          · simp only [Act.put, nrA, nrB, nrC, i64_w, i32_w]
            rfl
          refine pure_ (i := 35) (N := some 93) (v := undef) (a' := ?_) (lb 51 68719476735) rfl rfl (by kernel_rfl) (fun _ _ _ h => h) (Or.inr ⟨by rfl, rfl⟩) ?_ ?_
          rotate_left
          · simp only [Act.put, nrA, nrB, nrC, i64_w, i32_w]
            rfl
          refine pure_ (i := 36) (N := some 94) (v := undef) (a' := ?_) (lb 51 137438953471) rfl rfl (by kernel_rfl) (fun _ _ _ h => h) (Or.inr ⟨by rfl, rfl⟩) ?_ ?_
          rotate_left
          · simp only [Act.put, nrA, nrB, nrC, i64_w, i32_w]
            rfl
          refine pure_ (i := 37) (N := some 95) (v := undef) (a' := ?_) (lb 51 274877906943) rfl rfl (by kernel_rfl) (fun _ _ _ h => h) (Or.inr ⟨by rfl, rfl⟩) ?_ ?_
          rotate_left
          · simp only [Act.put, nrA, nrB, nrC, i64_w, i32_w]
            rfl
          refine pure_ (i := 38) (N := some 96) (v := ?_) (a' := ?_) (lb 51 549755813887) rfl rfl (by kernel_rfl) (fun _ _ _ h => h) (Or.inl ⟨by rfl, ?_⟩) ?_ ?_
          rotate_left
          · intro w'
            go_simp
            with_reducible rfl
          rotate_left
          · simp only [Act.put, nrA, nrB, nrC, i64_w, i32_w]
            rfl
          refine pure_ (i := 39) (N := some 97) (v := ?_) (a' := ?_) (lb 51 1099511627775) rfl rfl (by kernel_rfl) (fun _ _ _ h => h) (Or.inl ⟨by rfl, ?_⟩) ?_ ?_
          rotate_left
          · intro w'
            go_simp
            with_reducible rfl
          rotate_left
          · simp only [Act.put, nrA, nrB, nrC, i64_w, i32_w]
            rfl
          refine pure_ (i := 40) (N := some 98) (v := undef) (a' := ?_) (lb 51 2199023255551) rfl rfl (by kernel_rfl) (fun _ _ _ h => h) (Or.inr ⟨by rfl, rfl⟩) ?_ ?_
          rotate_left
          · simp only [Act.put, nrA, nrB, nrC, i64_w, i32_w]
            rfl
          refine pure_ (i := 41) (N := some 99) (v := undef) (a' := ?_) (lb 51 4398046511103) rfl rfl (by kernel_rfl) (fun _ _ _ h => h) (Or.inr ⟨by rfl, rfl⟩) ?_ ?_
          rotate_left
          · simp only [Act.put, nrA, nrB, nrC, i64_w, i32_w]
            rfl
          refine pure_ (i := 42) (N := some 100) (v := undef) (a' := ?_) (lb 51 8796093022207) rfl rfl (by kernel_rfl) (fun _ _ _ h => h) (Or.inr ⟨by rfl, rfl⟩) ?_ ?_
          rotate_left
          · simp only [Act.put, nrA, nrB, nrC, i64_w, i32_w]
            rfl
          refine pure_ (i := 43) (N := some 101) (v := undef) (a' := ?_) (lb 51 17592186044415) rfl rfl (by kernel_rfl) (fun _ _ _ h => h) (Or.inr ⟨by rfl, rfl⟩) ?_ ?_
          rotate_left
          · simp only [Act.put, nrA, nrB, nrC, i64_w, i32_w]
            rfl
          refine pure_ (i := 44) (N := some 102) (v := undef) (a' := ?_) (lb 51 35184372088831) rfl rfl (by kernel_rfl) (fun _ _ _ h => h) (Or.inr ⟨by rfl, rfl⟩) ?_ ?_
          rotate_left
          · simp only [Act.put, nrA, nrB, nrC, i64_w, i32_w]
            rfl
          refine pure_ (i := 45) (N := some 103) (v := undef) (a' := ?_) (lb 51 70368744177663) rfl rfl (by kernel_rfl) (fun _ _ _ h => h) (Or.inr ⟨by rfl, rfl⟩) ?_ ?_
          rotate_left
          · simp only [Act.put, nrA, nrB, nrC, i64_w, i32_w]
            rfl
          refine pure_ (i := 46) (N := some 104) (v := undef) (a' := ?_) (lb 51 140737488355327) rfl rfl (by kernel_rfl) (fun _ _ _ h => h) (Or.inr ⟨by rfl, rfl⟩) ?_ ?_
          rotate_left
          · simp only [Act.put, nrA, nrB, nrC, i64_w, i32_w]
            rfl
          refine pure_ (i := 47) (N := some 105) (v := undef) (a' := ?_) (lb 51 281474976710655) rfl rfl (by kernel_rfl) (fun _ _ _ h => h) (Or.inr ⟨by rfl, rfl⟩) ?_ ?_
          rotate_left
          · simp only [Act.put, nrA, nrB, nrC, i64_w, i32_w]
            rfl
          refine pure_ (i := 48) (N := some 106) (v := undef) (a' := ?_) (lb 51 562949953421311) rfl rfl (by kernel_rfl) (fun _ _ _ h => h) (Or.inr ⟨by rfl, rfl⟩) ?_ ?_
          rotate_left
          · simp only [Act.put, nrA, nrB, nrC, i64_w, i32_w]
            rfl
          refine pure_ (i := 49) (N := some 107) (v := undef) (a' := ?_) (lb 51 1125899906842623) rfl rfl (by kernel_rfl) (fun _ _ _ h => h) (Or.inr ⟨by rfl, rfl⟩) ?_ ?_
          rotate_left
          · simp only [Act.put, nrA, nrB, nrC, i64_w, i32_w]
            rfl
          refine pure_ (i := 50) (N := some 108) (v := ?_) (a' := ?_) (lb 51 2251799813685247) rfl rfl (by kernel_rfl) (fun _ _ _ h => h) (Or.inl ⟨by rfl, ?_⟩) ?_ ?_
          rotate_left
          · intro w'
            go_simp
            with_reducible rfl
          rotate_left
          · simp only [Act.put, nrA, nrB, nrC, i64_w, i32_w]
            rfl
          refine done_ (by kernel_rfl) ?_
          have HBE := Lib.hid hQ17.bel
          clear hHeld hQ11 hM11 hT11 hmv12 hb12 hQ12 hM12 hT12 hmt13 hb13 hQ13 hM13 hT13 hi14 hb14 hQ14 hM14 hT14 hmv15 hb15 hQ15 hM15 hT15 hmt16 hb16 hQ16 hM16 hT16 hb17 hQ17 hM17 hT17
          go_wp2_with (go_at_call 17; refine (works_any _).mono ?_; rintro e wz ⟨rfl, hgz⟩; have HBZ := Lib.hid (bl_trans HBE.out hgz.below); clear hgz)
          go_ret
          exact ⟨rfl, HBZ.out⟩
        · replace hi17 := Lib.hid (hi17.1 rfl)
          refine hK.out _ _ ⟨cell_blk hQ17.a 0 rfl, cell_blk hQ17.a 1 rfl, cell_blk hQ17.a 2 rfl, cell_blk hQ17.a 3 rfl, cell_blk hQ17.a 4 rfl, cell_blk hQ17.a 5 rfl, cell_blk hQ17.b 0 rfl, cell_blk hQ17.b 1 rfl, cell_blk hQ17.b 2 rfl, cell_blk hQ17.b 3 rfl, cell_blk hQ17.b 4 rfl, cell_blk hQ17.b 5 rfl, cell_blk hQ17.v 0 rfl, cell_blk hQ17.v 1 rfl, cell_blk hQ17.v 2 rfl, cell_blk hQ17.v 3 rfl, cell_blk hQ17.u 0 rfl, cell_blk hQ17.u 1 rfl, cell_blk hQ17.u 2 rfl, cell_blk hQ17.u 3 rfl⟩ (fun hHeld => ?_)
          clear hK K
          refine norm_ (a' := ?_) ?_ ?_
          rotate_left
          · show Act.put _ (some 78) _ = _
            simp only [Act.put, nrA, nrB, nrC, i64_w, i32_w]
            rfl
          refine pure_ (i := 21) (N := some 79) (v := ?_) (a' := ?_) (lb 51 4194303) rfl rfl (by kernel_rfl) (fun _ _ _ h => h) (Or.inl ⟨by rfl, ?_⟩) ?_ ?_
          rotate_left
          · intro w'
            go_simp
            with_reducible rfl
          rotate_left
          · simp only [Act.put, nrA, nrB, nrC, i64_w, i32_w]
            rfl
          refine pure_ (i := 22) (N := some 80) (v := ?_) (a' := ?_) (lb 51 8388607) rfl rfl (by kernel_rfl) (fun _ _ _ h => h) (Or.inl ⟨by rfl, ?_⟩) ?_ ?_
          rotate_left
          · intro w'
            go_simp
            with_reducible rfl
          rotate_left
          · simp only [Act.put, nrA, nrB, nrC, i64_w, i32_w]
            rfl
          refine pure_ (i := 23) (N := some 81) (v := ?_) (a' := ?_) (lb 51 16777215) rfl rfl (by kernel_rfl) (fun _ _ _ h => h) (Or.inl ⟨by rfl, ?_⟩) ?_ ?_
          rotate_left
          · intro w'
            go_simp
            with_reducible rfl
          rotate_left
          · simp only [Act.put, nrA, nrB, nrC, i64_w, i32_w]
            rfl
          refine take_ (i := 24) (N := some 82) (v := ?_) (a' := ?_) (lb 51 33554431) rfl rfl (by kernel_rfl) (fun _ _ _ h => h) (Or.inl ⟨by rfl, ?_⟩) hHeld ?_ ?_
          rotate_left
          · rintro w' ⟨s0, s1, s2, s3, s4, s5, s6, s7, s8, s9, s10, s11, s12, s13, s14, s15, s16, s17, s18, s19⟩
            go_simp
            with_reducible rfl
          rotate_left
          · simp only [Act.put, nrA, nrB, nrC, i64_w, i32_w]
            rfl
          refine take_ (i := 26) (N := some 84) (v := ?_) (a' := ?_) (lb 51 100663295) rfl rfl (by kernel_rfl) (fun _ _ _ h => h) (Or.inl ⟨by rfl, ?_⟩) hHeld ?_ ?_
          rotate_left
          · rintro w' ⟨s0, s1, s2, s3, s4, s5, s6, s7, s8, s9, s10, s11, s12, s13, s14, s15, s16, s17, s18, s19⟩
            go_simp
            with_reducible rfl
          rotate_left
          · simp only [Act.put, nrA, nrB, nrC, i64_w, i32_w]
            rfl
          refine take_ (i := 28) (N := some 86) (v := ?_) (a' := ?_) (lb 51 369098751) rfl rfl (by kernel_rfl) (fun _ _ _ h => h) (Or.inl ⟨by rfl, ?_⟩) hHeld ?_ ?_
          rotate_left
          · rintro w' ⟨s0, s1, s2, s3, s4, s5, s6, s7, s8, s9, s10, s11, s12, s13, s14, s15, s16, s17, s18, s19⟩
            go_simp
            with_reducible rfl
          rotate_left
          · simp only [Act.put, nrA, nrB, nrC, i64_w, i32_w]
            rfl
          refine one_ (i := 25) (N := some 83) (lb 51 402653183) rfl rfl (by kernel_rfl) (by decide) (fun K hK => ?_)
          refine goes_ Tryz.func14 (by kernel_rfl) rfl #[.agg #[.int .i64 kdu, .string txu, .slice aku nku cku, .slice a1u n1u c1u]] (by rfl) rfl rfl (by simp only [List.map_toArray, List.map_cons, List.map_nil]; rfl) ?_
          with_reducible refine (HVCu.out _ (HM.out.trans (mle_below hQ17.bel))).mono ?_
          rintro e w18 ⟨kd18, tx18, ak18, nk18, ck18, a118, n118, c118, rfl, hmv18, hb18⟩
          refine ⟨_, rfl, ?_⟩
          have hQ18 := hQ17.bl hb18
          have hM18 := bl_heap hb18 hM17
          have hT18 := hT17.mono (mle_below hb18)
          refine hK.out _ _ ⟨cell_blk hQ18.a 0 rfl, cell_blk hQ18.a 1 rfl, cell_blk hQ18.a 2 rfl, cell_blk hQ18.a 3 rfl, cell_blk hQ18.a 4 rfl, cell_blk hQ18.a 5 rfl, cell_blk hQ18.b 0 rfl, cell_blk hQ18.b 1 rfl, cell_blk hQ18.b 2 rfl, cell_blk hQ18.b 3 rfl, cell_blk hQ18.b 4 rfl, cell_blk hQ18.b 5 rfl, cell_blk hQ18.v 0 rfl, cell_blk hQ18.v 1 rfl, cell_blk hQ18.v 2 rfl, cell_blk hQ18.v 3 rfl, cell_blk hQ18.u 0 rfl, cell_blk hQ18.u 1 rfl, cell_blk hQ18.u 2 rfl, cell_blk hQ18.u 3 rfl⟩ (fun hHeld => ?_)
          clear hK K
          refine norm_ (a' := ?_) ?_ ?_
          rotate_left
          · show Act.put _ (some 83) _ = _
            simp only [Act.put, nrA, nrB, nrC, i64_w, i32_w]
            rfl
          refine one_ (i := 27) (N := some 85) (lb 51 536870911) rfl rfl (by kernel_rfl) (by decide) (fun K hK => ?_)
          refine goes_ Tryz.func16 (by kernel_rfl) rfl #[.agg #[.int .i64 kda, .string nma, .string txa, .slice aka nka cka, .slice a1a n1a c1a, .slice a2a n2a c2a]] (by rfl) rfl rfl (by simp only [List.map_toArray, List.map_cons, List.map_nil]; rfl) ?_
          with_reducible refine (HKCa.out _ (HM.out.trans (mle_below hQ18.bel))).mono ?_
          rintro e w19 ⟨kd19, ak19, nk19, ck19, a119, n119, c119, a219, n219, c219, rfl, hmt19, hb19⟩
          refine ⟨_, rfl, ?_⟩
          have hQ19 := hQ18.bl hb19
          have hM19 := bl_heap hb19 hM18
          have hT19 := hT18.mono (mle_below hb19)
          refine hK.out _ _ ⟨cell_blk hQ19.a 0 rfl, cell_blk hQ19.a 1 rfl, cell_blk hQ19.a 2 rfl, cell_blk hQ19.a 3 rfl, cell_blk hQ19.a 4 rfl, cell_blk hQ19.a 5 rfl, cell_blk hQ19.b 0 rfl, cell_blk hQ19.b 1 rfl, cell_blk hQ19.b 2 rfl, cell_blk hQ19.b 3 rfl, cell_blk hQ19.b 4 rfl, cell_blk hQ19.b 5 rfl, cell_blk hQ19.v 0 rfl, cell_blk hQ19.v 1 rfl, cell_blk hQ19.v 2 rfl, cell_blk hQ19.v 3 rfl, cell_blk hQ19.u 0 rfl, cell_blk hQ19.u 1 rfl, cell_blk hQ19.u 2 rfl, cell_blk hQ19.u 3 rfl⟩ (fun hHeld => ?_)
          clear hK K
          refine norm_ (a' := ?_) ?_ ?_
          rotate_left
          · show Act.put _ (some 85) _ = _
            simp only [Act.put, nrA, nrB, nrC, i64_w, i32_w]
            rfl
          refine one_ (i := 29) (N := some 87) (lb 51 1073741823) rfl rfl (by kernel_rfl) (by decide) (fun K hK => ?_)
          refine goes_ Tryz.func16 (by kernel_rfl) rfl #[.agg #[.int .i64 kdb, .string nmb, .string txb, .slice akb nkb ckb, .slice a1b n1b c1b, .slice a2b n2b c2b]] (by rfl) rfl rfl (by simp only [List.map_toArray, List.map_cons, List.map_nil]; rfl) ?_
          with_reducible refine (HKCb.out _ (HM.out.trans (mle_below hQ19.bel))).mono ?_
          rintro e w20 ⟨kd20, ak20, nk20, ck20, a120, n120, c120, a220, n220, c220, rfl, hmt20, hb20⟩
          refine ⟨_, rfl, ?_⟩
          have hQ20 := hQ19.bl hb20
          have hM20 := bl_heap hb20 hM19
          have hT20 := hT19.mono (mle_below hb20)
          refine hK.out _ _ ⟨cell_blk hQ20.a 0 rfl, cell_blk hQ20.a 1 rfl, cell_blk hQ20.a 2 rfl, cell_blk hQ20.a 3 rfl, cell_blk hQ20.a 4 rfl, cell_blk hQ20.a 5 rfl, cell_blk hQ20.b 0 rfl, cell_blk hQ20.b 1 rfl, cell_blk hQ20.b 2 rfl, cell_blk hQ20.b 3 rfl, cell_blk hQ20.b 4 rfl, cell_blk hQ20.b 5 rfl, cell_blk hQ20.v 0 rfl, cell_blk hQ20.v 1 rfl, cell_blk hQ20.v 2 rfl, cell_blk hQ20.v 3 rfl, cell_blk hQ20.u 0 rfl, cell_blk hQ20.u 1 rfl, cell_blk hQ20.u 2 rfl, cell_blk hQ20.u 3 rfl⟩ (fun hHeld => ?_)
          clear hK K
          refine norm_ (a' := ?_) ?_ ?_
          rotate_left
          · show Act.put _ (some 87) _ = _
            simp only [Act.put, nrA, nrB, nrC, i64_w, i32_w]
            rfl
          refine one_ (i := 30) (N := some 88) (lb 51 2147483647) rfl rfl (by kernel_rfl) (by decide) (fun K hK => ?_)
          refine goes_ Tryz.func26 (by kernel_rfl) rfl #[.agg #[.int .i64 kd18, .string tx18, .slice ak18 nk18 ck18, .slice a118 n118 c118], .agg #[.int .i64 kd19, .slice ak19 nk19 ck19, .slice a119 n119 c119, .slice a219 n219 c219], .agg #[.int .i64 kd20, .slice ak20 nk20 ck20, .slice a120 n120 c120, .slice a220 n220 c220]] (by rfl) rfl rfl (by simp only [List.map_toArray, List.map_cons, List.map_nil]; rfl) ?_
          with_reducible refine (HDY.out _ _ _ _ _ _ _ _ _ _ _ _ _ _ _ _ _ _ _ _ _ _ _ _ _ _ _ _ _ (hmv18.mono (((fr_le (HM.out.trans (mle_below hQ18.bel))).trans (mle_below hb19)).trans (mle_below hb20))) (hmt19.mono ((fr_le (HM.out.trans (mle_below hQ19.bel))).trans (mle_below hb20))) (hmt20.mono (fr_le (HM.out.trans (mle_below hQ20.bel))))).mono ?_
          rintro e w21 ⟨b21, rfl, hd21, hb21⟩
          refine ⟨_, rfl, ?_⟩
          have hQ21 := hQ20.bl hb21
          have hM21 := bl_heap hb21 hM20
          have hT21 := hT20.mono (mle_below hb21)
          cases b21
          · replace hd21 := Lib.hid (hd21 rfl)
            refine hK.out _ _ ⟨cell_blk hQ21.a 0 rfl, cell_blk hQ21.a 1 rfl, cell_blk hQ21.a 2 rfl, cell_blk hQ21.a 3 rfl, cell_blk hQ21.a 4 rfl, cell_blk hQ21.a 5 rfl, cell_blk hQ21.b 0 rfl, cell_blk hQ21.b 1 rfl, cell_blk hQ21.b 2 rfl, cell_blk hQ21.b 3 rfl, cell_blk hQ21.b 4 rfl, cell_blk hQ21.b 5 rfl, cell_blk hQ21.v 0 rfl, cell_blk hQ21.v 1 rfl, cell_blk hQ21.v 2 rfl, cell_blk hQ21.v 3 rfl, cell_blk hQ21.u 0 rfl, cell_blk hQ21.u 1 rfl, cell_blk hQ21.u 2 rfl, cell_blk hQ21.u 3 rfl⟩ (fun hHeld => ?_)
            clear hK K
            refine norm_ (a' := ?_) ?_ ?_
            rotate_left
            · show Act.put _ (some 88) _ = _
              simp only [Act.put, nrA, nrB, nrC, i64_w, i32_w]
              rfl
            refine pure_ (i := 31) (N := some 89) (v := ?_) (a' := ?_) (lb 51 4294967295) rfl rfl (by kernel_rfl) (fun _ _ _ h => h) (Or.inl ⟨by rfl, ?_⟩) ?_ ?_
            rotate_left
            · intro w'
              go_simp
              with_reducible rfl
            rotate_left
            · simp only [Act.put, nrA, nrB, nrC, i64_w, i32_w]
              rfl
            refine pure_ (i := 32) (N := some 90) (v := ?_) (a' := ?_) (lb 51 8589934591) rfl rfl (by kernel_rfl) (fun _ _ _ h => h) (Or.inl ⟨by rfl, ?_⟩) ?_ ?_
            rotate_left
            · intro w'
              go_simp
              with_reducible rfl
            rotate_left
            · simp only [Act.put, nrA, nrB, nrC, i64_w, i32_w]
              rfl
            refine take_ (i := 33) (N := some 91) (v := ?_) (a' := ?_) (lb 51 17179869183) rfl rfl (by kernel_rfl) (fun _ _ _ h => h) (Or.inl ⟨by rfl, ?_⟩) hHeld ?_ ?_
            rotate_left
            · rintro w' ⟨s0, s1, s2, s3, s4, s5, s6, s7, s8, s9, s10, s11, s12, s13, s14, s15, s16, s17, s18, s19⟩
              go_simp
              with_reducible rfl
            rotate_left
            · simp only [Act.put, nrA, nrB, nrC, i64_w, i32_w]
              rfl
            refine take_ (i := 35) (N := some 93) (v := ?_) (a' := ?_) (lb 51 51539607551) rfl rfl (by kernel_rfl) (fun _ _ _ h => h) (Or.inl ⟨by rfl, ?_⟩) hHeld ?_ ?_
            rotate_left
            · rintro w' ⟨s0, s1, s2, s3, s4, s5, s6, s7, s8, s9, s10, s11, s12, s13, s14, s15, s16, s17, s18, s19⟩
              go_simp
              with_reducible rfl
            rotate_left
            · simp only [Act.put, nrA, nrB, nrC, i64_w, i32_w]
              rfl
            refine one_ (i := 34) (N := some 92) (lb 51 68719476735) rfl rfl (by kernel_rfl) (by decide) (fun K hK => ?_)
            refine goes_ Tryz.func16 (by kernel_rfl) rfl #[.agg #[.int .i64 kda, .string nma, .string txa, .slice aka nka cka, .slice a1a n1a c1a, .slice a2a n2a c2a]] (by rfl) rfl rfl (by simp only [List.map_toArray, List.map_cons, List.map_nil]; rfl) ?_
            with_reducible refine (HKCa.out _ (HM.out.trans (mle_below hQ21.bel))).mono ?_
            rintro e w22 ⟨kd22, ak22, nk22, ck22, a122, n122, c122, a222, n222, c222, rfl, hmt22, hb22⟩
            refine ⟨_, rfl, ?_⟩
            have hQ22 := hQ21.bl hb22
            have hM22 := bl_heap hb22 hM21
            have hT22 := hT21.mono (mle_below hb22)
            refine hK.out _ _ ⟨cell_blk hQ22.a 0 rfl, cell_blk hQ22.a 1 rfl, cell_blk hQ22.a 2 rfl, cell_blk hQ22.a 3 rfl, cell_blk hQ22.a 4 rfl, cell_blk hQ22.a 5 rfl, cell_blk hQ22.b 0 rfl, cell_blk hQ22.b 1 rfl, cell_blk hQ22.b 2 rfl, cell_blk hQ22.b 3 rfl, cell_blk hQ22.b 4 rfl, cell_blk hQ22.b 5 rfl, cell_blk hQ22.v 0 rfl, cell_blk hQ22.v 1 rfl, cell_blk hQ22.v 2 rfl, cell_blk hQ22.v 3 rfl, cell_blk hQ22.u 0 rfl, cell_blk hQ22.u 1 rfl, cell_blk hQ22.u 2 rfl, cell_blk hQ22.u 3 rfl⟩ (fun hHeld => ?_)
            clear hK K
            refine norm_ (a' := ?_) ?_ ?_
            rotate_left
            · show Act.put _ (some 92) _ = _
              simp only [Act.put, nrA, nrB, nrC, i64_w, i32_w]
              rfl
            refine one_ (i := 36) (N := some 94) (lb 51 137438953471) rfl rfl (by kernel_rfl) (by decide) (fun K hK => ?_)
            refine goes_ Tryz.func16 (by kernel_rfl) rfl #[.agg #[.int .i64 kdb, .string nmb, .string txb, .slice akb nkb ckb, .slice a1b n1b c1b, .slice a2b n2b c2b]] (by rfl) rfl rfl (by simp only [List.map_toArray, List.map_cons, List.map_nil]; rfl) ?_
            with_reducible refine (HKCb.out _ (HM.out.trans (mle_below hQ22.bel))).mono ?_
            rintro e w23 ⟨kd23, ak23, nk23, ck23, a123, n123, c123, a223, n223, c223, rfl, hmt23, hb23⟩
            refine ⟨_, rfl, ?_⟩
            have hQ23 := hQ22.bl hb23
            have hM23 := bl_heap hb23 hM22
            have hT23 := hT22.mono (mle_below hb23)
            refine hK.out _ _ ⟨cell_blk hQ23.a 0 rfl, cell_blk hQ23.a 1 rfl, cell_blk hQ23.a 2 rfl, cell_blk hQ23.a 3 rfl, cell_blk hQ23.a 4 rfl, cell_blk hQ23.a 5 rfl, cell_blk hQ23.b 0 rfl, cell_blk hQ23.b 1 rfl, cell_blk hQ23.b 2 rfl, cell_blk hQ23.b 3 rfl, cell_blk hQ23.b 4 rfl, cell_blk hQ23.b 5 rfl, cell_blk hQ23.v 0 rfl, cell_blk hQ23.v 1 rfl, cell_blk hQ23.v 2 rfl, cell_blk hQ23.v 3 rfl, cell_blk hQ23.u 0 rfl, cell_blk hQ23.u 1 rfl, cell_blk hQ23.u 2 rfl, cell_blk hQ23.u 3 rfl⟩ (fun hHeld => ?_)
            clear hK K
            refine norm_ (a' := ?_) ?_ ?_
            rotate_left
            · show Act.put _ (some 94) _ = _
              simp only [Act.put, nrA, nrB, nrC, i64_w, i32_w]
              rfl
            refine one_ (i := 37) (N := some 95) (lb 51 274877906943) rfl rfl (by kernel_rfl) (by decide) (fun K hK => ?_)
            refine goes_ Tryz.func27 (by kernel_rfl) rfl #[.agg #[.int .i64 kd22, .slice ak22 nk22 ck22, .slice a122 n122 c122, .slice a222 n222 c222], .agg #[.int .i64 kd23, .slice ak23 nk23 ck23, .slice a123 n123 c123, .slice a223 n223 c223]] (by rfl) rfl rfl (by simp only [List.map_toArray, List.map_cons, List.map_nil]; rfl) ?_
            with_reducible refine (HDP.out _ _ _ _ _ _ _ _ _ _ _ _ _ _ _ _ _ _ _ _ _ (hmt22.mono ((fr_le (HM.out.trans (mle_below hQ22.bel))).trans (mle_below hb23))) (hmt23.mono (fr_le (HM.out.trans (mle_below hQ23.bel))))).mono ?_
            rintro e w24 ⟨b24, rfl, hd24, hb24⟩
            refine ⟨_, rfl, ?_⟩
            have hQ24 := hQ23.bl hb24
            have hM24 := bl_heap hb24 hM23
            have hT24 := hT23.mono (mle_below hb24)
            cases b24
            · replace hd24 := Lib.hid (hd24 rfl)
              by_cases hma : 0 < n2a
              · have hna1 : decide (0 < n2a) = true := by simp [hma]
                have hna2 : decide ((0 : Int) < (n2a : Int)) = true := by simp; omega
                by_cases hmb : 0 < n2b
                · have hnb1 : decide (0 < n2b) = true := by simp [hmb]
                  have hnb2 : decide ((0 : Int) < (n2b : Int)) = true := by simp; omega
                  clear hma hmb
                  refine hK.out _ _ ⟨cell_blk hQ24.a 0 rfl, cell_blk hQ24.a 1 rfl, cell_blk hQ24.a 2 rfl, cell_blk hQ24.a 3 rfl, cell_blk hQ24.a 4 rfl, cell_blk hQ24.a 5 rfl, cell_blk hQ24.b 0 rfl, cell_blk hQ24.b 1 rfl, cell_blk hQ24.b 2 rfl, cell_blk hQ24.b 3 rfl, cell_blk hQ24.b 4 rfl, cell_blk hQ24.b 5 rfl, cell_blk hQ24.v 0 rfl, cell_blk hQ24.v 1 rfl, cell_blk hQ24.v 2 rfl, cell_blk hQ24.v 3 rfl, cell_blk hQ24.u 0 rfl, cell_blk hQ24.u 1 rfl, cell_blk hQ24.u 2 rfl, cell_blk hQ24.u 3 rfl⟩ (fun hHeld => ?_)
                  clear hK K
                  refine norm_ (a' := ?_) ?_ ?_
                  rotate_left
                  · show Act.put _ (some 95) _ = _
                    simp only [Act.put, nrA, nrB, nrC, i64_w, i32_w]
                    rfl
                  refine pure_ (i := 38) (N := some 96) (v := ?_) (a' := ?_) (lb 51 549755813887) rfl rfl (by kernel_rfl) (fun _ _ _ h => h) (Or.inl ⟨by rfl, ?_⟩) ?_ ?_
                  rotate_left
                  · intro w'
                    go_simp
                    with_reducible rfl
                  rotate_left
                  · simp only [Act.put, nrA, nrB, nrC, i64_w, i32_w]
                    rfl
                  refine pure_ (i := 39) (N := some 97) (v := ?_) (a' := ?_) (lb 51 1099511627775) rfl rfl (by kernel_rfl) (fun _ _ _ h => h) (Or.inl ⟨by rfl, ?_⟩) ?_ ?_
                  rotate_left
                  · intro w'
                    go_simp
                    with_reducible rfl
                  rotate_left
                  · simp only [Act.put, nrA, nrB, nrC, i64_w, i32_w]
                    rfl
                  refine pure_ (i := 40) (N := some 98) (v := ?_) (a' := ?_) (lb 51 2199023255551) rfl rfl (by kernel_rfl) (fun _ _ _ h => h) (Or.inl ⟨by rfl, ?_⟩) ?_ ?_
                  rotate_left
                  · intro w'
                    go_simp
                    with_reducible rfl
                  rotate_left
                  · simp only [Act.put, nrA, nrB, nrC, i64_w, i32_w]
                    rfl
                  refine take_ (i := 41) (N := some 99) (v := ?_) (a' := ?_) (lb 51 4398046511103) rfl rfl (by kernel_rfl) (fun _ _ _ h => h) (Or.inl ⟨by rfl, ?_⟩) hHeld ?_ ?_
                  rotate_left
                  · rintro w' ⟨s0, s1, s2, s3, s4, s5, s6, s7, s8, s9, s10, s11, s12, s13, s14, s15, s16, s17, s18, s19⟩
                    go_simp
                    with_reducible rfl
                  rotate_left
                  · simp only [Act.put, nrA, nrB, nrC, i64_w, i32_w]
                    rfl
                  refine pure_ (i := 42) (N := some 100) (v := ?_) (a' := ?_) (lb 51 8796093022207) rfl rfl (by kernel_rfl) (fun _ _ _ h => h) (Or.inl ⟨by rfl, ?_⟩) ?_ ?_
                  rotate_left
                  · intro w'
                    go_simp
                    with_reducible rfl
                  rotate_left
                  · simp only [Act.put, nrA, nrB, nrC, i64_w, i32_w]
                    rfl
                  refine pure_ (i := 43) (N := some 101) (v := ?_) (a' := ?_) (lb 51 17592186044415) rfl rfl (by kernel_rfl) (fun _ _ _ h => h) (Or.inl ⟨by rfl, ?_⟩) ?_ ?_
                  rotate_left
                  · intro w'
                    go_simp
                    with_reducible rfl
                  rotate_left
                  · simp only [Act.put, nrA, nrB, nrC, i64_w, i32_w]
                    rfl
                  refine pure_ (i := 44) (N := some 102) (v := ?_) (a' := ?_) (lb 51 35184372088831) rfl rfl (by kernel_rfl) (fun _ _ _ h => h) (Or.inl ⟨by rfl, ?_⟩) ?_ ?_
                  rotate_left
                  · intro w'
                    go_simp
                    with_reducible rfl
                  rotate_left
                  · simp only [Act.put, nrA, nrB, nrC, i64_w, i32_w]
                    rfl
                  refine pure_ (i := 45) (N := some 103) (v := ?_) (a' := ?_) (lb 51 70368744177663) rfl rfl (by kernel_rfl) (fun _ _ _ h => h) (Or.inl ⟨by rfl, ?_⟩) ?_ ?_
                  rotate_left
                  · intro w'
                    go_simp
                    with_reducible rfl
                  rotate_left
                  · simp only [Act.put, nrA, nrB, nrC, i64_w, i32_w]
                    rfl
                  refine take_ (i := 46) (N := some 104) (v := ?_) (a' := ?_) (lb 51 140737488355327) rfl rfl (by kernel_rfl) (fun _ _ _ h => h) (Or.inl ⟨by rfl, ?_⟩) hHeld ?_ ?_
                  rotate_left
                  · rintro w' ⟨s0, s1, s2, s3, s4, s5, s6, s7, s8, s9, s10, s11, s12, s13, s14, s15, s16, s17, s18, s19⟩
                    go_simp
                    with_reducible rfl
                  rotate_left
                  · simp only [Act.put, nrA, nrB, nrC, i64_w, i32_w]
                    rfl
                  refine pure_ (i := 47) (N := some 105) (v := ?_) (a' := ?_) (lb 51 281474976710655) rfl rfl (by kernel_rfl) (fun _ _ _ h => h) (Or.inl ⟨by rfl, ?_⟩) ?_ ?_
                  rotate_left
                  · intro w'
                    go_simp
                    with_reducible rfl
                  rotate_left
                  · simp only [Act.put, nrA, nrB, nrC, i64_w, i32_w]
                    rfl
                  refine pure_ (i := 48) (N := some 106) (v := ?_) (a' := ?_) (lb 51 562949953421311) rfl rfl (by kernel_rfl) (fun _ _ _ h => h) (Or.inl ⟨by rfl, ?_⟩) ?_ ?_
                  rotate_left
                  · intro w'
                    go_simp
                    with_reducible rfl
                  rotate_left
                  · simp only [Act.put, nrA, nrB, nrC, i64_w, i32_w]
                    rfl
                  refine pure_ (i := 49) (N := some 107) (v := ?_) (a' := ?_) (lb 51 1125899906842623) rfl rfl (by kernel_rfl) (fun _ _ _ h => h) (Or.inl ⟨by rfl, ?_⟩) ?_ ?_
                  rotate_left
                  · intro w'
                    go_simp
                    with_reducible rfl
                  rotate_left
                  · simp only [Act.put, nrA, nrB, nrC, i64_w, i32_w]
                    rfl
                  refine pure_ (i := 50) (N := some 108) (v := ?_) (a' := ?_) (lb 51 2251799813685247) rfl rfl (by kernel_rfl) (fun _ _ _ h => h) (Or.inl ⟨by rfl, ?_⟩) ?_ ?_
                  rotate_left
                  · intro w'
                    go_simp
                    with_reducible rfl
                  rotate_left
                  · simp only [Act.put, nrA, nrB, nrC, i64_w, i32_w]
                    rfl
                  refine done_ (by kernel_rfl) ?_
                  have HBE := Lib.hid hQ24.bel
                  clear hHeld hQ11 hM11 hT11 hmv12 hb12 hQ12 hM12 hT12 hmt13 hb13 hQ13 hM13 hT13 hi14 hb14 hQ14 hM14 hT14 hmv15 hb15 hQ15 hM15 hT15 hmt16 hb16 hQ16 hM16 hT16 hi17 hb17 hQ17 hM17 hT17 hmv18 hb18 hQ18 hM18 hT18 hmt19 hb19 hQ19 hM19 hT19 hmt20 hb20 hQ20 hM20 hT20 hd21 hb21 hQ21 hM21 hT21 hmt22 hb22 hQ22 hM22 hT22 hmt23 hb23 hQ23 hM23 hT23 hd24 hb24 hQ24 hM24 hT24
                  go_wp2_with (go_at_call 17; refine (works_any _).mono ?_; rintro e wz ⟨rfl, hgz⟩; have HBZ := Lib.hid (bl_trans HBE.out hgz.below); clear hgz)
                  go_ret
                  exact ⟨rfl, HBZ.out⟩
                · have hnb1 : decide (0 < n2b) = false := by simp; omega
                  have hnb2 : decide ((0 : Int) < (n2b : Int)) = false := by simp; omega
                  have HMG := Lib.hid (mgH_of (HPT.out trivial) (HPV7.out trivial) (HPV9.out trivial) (HOK.out.1 trivial) (HKB.out.1.symm.trans H6.out) (HOM.out trivial) hi14.out hi17.out hd21.out hd24.out (.inr (by have := HKB.out.2; omega)))
                  clear hma hmb
                  refine hK.out _ _ ⟨cell_blk hQ24.a 0 rfl, cell_blk hQ24.a 1 rfl, cell_blk hQ24.a 2 rfl, cell_blk hQ24.a 3 rfl, cell_blk hQ24.a 4 rfl, cell_blk hQ24.a 5 rfl, cell_blk hQ24.b 0 rfl, cell_blk hQ24.b 1 rfl, cell_blk hQ24.b 2 rfl, cell_blk hQ24.b 3 rfl, cell_blk hQ24.b 4 rfl, cell_blk hQ24.b 5 rfl, cell_blk hQ24.v 0 rfl, cell_blk hQ24.v 1 rfl, cell_blk hQ24.v 2 rfl, cell_blk hQ24.v 3 rfl, cell_blk hQ24.u 0 rfl, cell_blk hQ24.u 1 rfl, cell_blk hQ24.u 2 rfl, cell_blk hQ24.u 3 rfl⟩ (fun hHeld => ?_)
                  clear hK K
                  refine norm_ (a' := ?_) ?_ ?_
                  rotate_left
                  · show Act.put _ (some 95) _ = _
                    simp only [Act.put, nrA, nrB, nrC, i64_w, i32_w]
                    rfl
                  refine pure_ (i := 38) (N := some 96) (v := ?_) (a' := ?_) (lb 51 549755813887) rfl rfl (by kernel_rfl) (fun _ _ _ h => h) (Or.inl ⟨by rfl, ?_⟩) ?_ ?_
                  rotate_left
                  · intro w'
                    go_simp
                    with_reducible rfl
                  rotate_left
                  · simp only [Act.put, nrA, nrB, nrC, i64_w, i32_w]
                    rfl
                  refine pure_ (i := 39) (N := some 97) (v := ?_) (a' := ?_) (lb 51 1099511627775) rfl rfl (by kernel_rfl) (fun _ _ _ h => h) (Or.inl ⟨by rfl, ?_⟩) ?_ ?_
                  rotate_left
                  · intro w'
                    go_simp
                    with_reducible rfl
                  rotate_left
                  · simp only [Act.put, nrA, nrB, nrC, i64_w, i32_w]
                    rfl
                  refine pure_ (i := 40) (N := some 98) (v := ?_) (a' := ?_) (lb 51 2199023255551) rfl rfl (by kernel_rfl) (fun _ _ _ h => h) (Or.inl ⟨by rfl, ?_⟩) ?_ ?_
                  rotate_left
                  · intro w'
                    go_simp
                    with_reducible rfl
                  rotate_left
                  · simp only [Act.put, nrA, nrB, nrC, i64_w, i32_w]
                    rfl
                  refine take_ (i := 41) (N := some 99) (v := ?_) (a' := ?_) (lb 51 4398046511103) rfl rfl (by kernel_rfl) (fun _ _ _ h => h) (Or.inl ⟨by rfl, ?_⟩) hHeld ?_ ?_
                  rotate_left
                  · rintro w' ⟨s0, s1, s2, s3, s4, s5, s6, s7, s8, s9, s10, s11, s12, s13, s14, s15, s16, s17, s18, s19⟩
                    go_simp
                    with_reducible rfl
                  rotate_left
                  · simp only [Act.put, nrA, nrB, nrC, i64_w, i32_w]
                    rfl
                  refine pure_ (i := 42) (N := some 100) (v := ?_) (a' := ?_) (lb 51 8796093022207) rfl rfl (by kernel_rfl) (fun _ _ _ h => h) (Or.inl ⟨by rfl, ?_⟩) ?_ ?_
                  rotate_left
                  · intro w'
                    go_simp
                    with_reducible rfl
                  rotate_left
                  · simp only [Act.put, nrA, nrB, nrC, i64_w, i32_w]
                    rfl
                  refine pure_ (i := 43) (N := some 101) (v := ?_) (a' := ?_) (lb 51 17592186044415) rfl rfl (by kernel_rfl) (fun _ _ _ h => h) (Or.inl ⟨by rfl, ?_⟩) ?_ ?_
                  rotate_left
                  · intro w'
                    go_simp
                    with_reducible rfl
                  rotate_left
                  · simp only [Act.put, nrA, nrB, nrC, i64_w, i32_w]
                    rfl
                  refine pure_ (i := 44) (N := some 102) (v := ?_) (a' := ?_) (lb 51 35184372088831) rfl rfl (by kernel_rfl) (fun _ _ _ h => h) (Or.inl ⟨by rfl, ?_⟩) ?_ ?_
                  rotate_left
                  · intro w'
                    go_simp
                    with_reducible rfl
                  rotate_left
                  · simp only [Act.put, nrA, nrB, nrC, i64_w, i32_w]
                    rfl
                  refine pure_ (i := 45) (N := some 103) (v := ?_) (a' := ?_) (lb 51 70368744177663) rfl rfl (by kernel_rfl) (fun _ _ _ h => h) (Or.inl ⟨by rfl, ?_⟩) ?_ ?_
                  rotate_left
                  · intro w'
                    go_simp
                    with_reducible rfl
                  rotate_left
                  · simp only [Act.put, nrA, nrB, nrC, i64_w, i32_w]
                    rfl
                  refine take_ (i := 46) (N := some 104) (v := ?_) (a' := ?_) (lb 51 140737488355327) rfl rfl (by kernel_rfl) (fun _ _ _ h => h) (Or.inl ⟨by rfl, ?_⟩) hHeld ?_ ?_
                  rotate_left
                  · rintro w' ⟨s0, s1, s2, s3, s4, s5, s6, s7, s8, s9, s10, s11, s12, s13, s14, s15, s16, s17, s18, s19⟩
                    go_simp
                    with_reducible rfl
                  rotate_left
                  · simp only [Act.put, nrA, nrB, nrC, i64_w, i32_w]
                    rfl
                  refine pure_ (i := 47) (N := some 105) (v := ?_) (a' := ?_) (lb 51 281474976710655) rfl rfl (by kernel_rfl) (fun _ _ _ h => h) (Or.inl ⟨by rfl, ?_⟩) ?_ ?_
                  rotate_left
                  · intro w'
                    go_simp
                    with_reducible rfl
                  rotate_left
                  · simp only [Act.put, nrA, nrB, nrC, i64_w, i32_w]
                    rfl
                  refine pure_ (i := 48) (N := some 106) (v := ?_) (a' := ?_) (lb 51 562949953421311) rfl rfl (by kernel_rfl) (fun _ _ _ h => h) (Or.inl ⟨by rfl, ?_⟩) ?_ ?_
                  rotate_left
                  · intro w'
                    go_simp
                    with_reducible rfl
                  rotate_left
                  · simp only [Act.put, nrA, nrB, nrC, i64_w, i32_w]
                    rfl
                  refine pure_ (i := 49) (N := some 107) (v := ?_) (a' := ?_) (lb 51 1125899906842623) rfl rfl (by kernel_rfl) (fun _ _ _ h => h) (Or.inl ⟨by rfl, ?_⟩) ?_ ?_
                  rotate_left
                  · intro w'
                    go_simp
                    with_reducible rfl
                  rotate_left
                  · simp only [Act.put, nrA, nrB, nrC, i64_w, i32_w]
                    rfl
                  refine pure_ (i := 50) (N := some 108) (v := ?_) (a' := ?_) (lb 51 2251799813685247) rfl rfl (by kernel_rfl) (fun _ _ _ h => h) (Or.inl ⟨by rfl, ?_⟩) ?_ ?_
                  rotate_left
                  · intro w'
                    go_simp
                    with_reducible rfl
                  rotate_left
                  · simp only [Act.put, nrA, nrB, nrC, i64_w, i32_w]
                    rfl
                  refine done_ (by kernel_rfl) ?_
                  have HQE := Lib.hid hQ24
                  have HME := Lib.hid hM24
                  have HTE := Lib.hid hT24
                  clear hHeld hQ11 hM11 hT11 hmv12 hb12 hQ12 hM12 hT12 hmt13 hb13 hQ13 hM13 hT13 hi14 hb14 hQ14 hM14 hT14 hmv15 hb15 hQ15 hM15 hT15 hmt16 hb16 hQ16 hM16 hT16 hi17 hb17 hQ17 hM17 hT17 hmv18 hb18 hQ18 hM18 hT18 hmt19 hb19 hQ19 hM19 hT19 hmt20 hb20 hQ20 hM20 hT20 hd21 hb21 hQ21 hM21 hT21 hmt22 hb22 hQ22 hM22 hT22 hmt23 hb23 hQ23 hM23 hT23 hd24 hb24 hQ24 hM24 hT24
                  have HOV := Lib.hid (fun (W : World) (kv tv akv nkv ckv a1v n1v c1v ku tu aku nku cku a1u n1u c1u) (h1 : MV W.cell? (vlCells kv tv akv nkv ckv a1v n1v c1v) (valOf v)) (h2 : MV W.cell? (vlCells ku tu aku nku cku a1u n1u c1u) (valOf u)) => show Calls Tryz.prog 28 #[.agg #[.int .i64 kv, .string tv, .slice akv nkv ckv, .slice a1v n1v c1v], .agg #[.int .i64 ku, .string tu, .slice aku nku cku, .slice a1u n1u c1u]] W (OvQ W.cell? v u W) from over_any (by have h := h1; rw [HMG.out.ev] at h; exact h) (by have h := h2; rw [HMG.out.eu] at h; exact h) HMG.out.pv HMG.out.pu HMG.out.kv HMG.out.ku HMG.out.wv HMG.out.wu (MLe.refl _))
                  have HGV := Lib.hid (fun (W : World) (h : MIT W.cell? (itCells (oI om).kind ⟨#[]⟩ ⟨#[]⟩ akm nkm ckm a1m n1m c1m a2m n2m c2m) (oI om)) => show Calls Tryz.prog 20 #[.agg #[.int .i64 (oI om).kind, .string ⟨#[]⟩, .string ⟨#[]⟩, .slice akm nkm ckm, .slice a1m n1m c1m, .slice a2m n2m c2m]] W (CpT (givenOf (oI om)) W.cell? W) from given_any (oI om) W.cell? _ _ _ _ _ _ _ _ _ _ _ _ W HMG.out.bd h (MLe.refl _))
                  have HMI2 := Lib.hid (fun (W : World) (out : List KV) (ak nk ck a1 n1 c1 kd' ak' nk' ck' a1' n1' c1' a2' n2' c2') (ho : OvR v u out) (h3 : MV W.cell? (vlCells 6 ⟨#[]⟩ ak nk ck a1 n1 c1) (obV out)) (h4 : MST W.cell? (stCells kd' ak' nk' ck' a1' n1' c1' a2' n2' c2') (givenOf (oI om))) => show Calls Tryz.prog 15 #[.agg #[.int .i64 6, .string ⟨#[]⟩, .slice ak nk ck, .slice a1 n1 c1], .agg #[.int .i64 kd', .slice ak' nk' ck', .slice a1' n1' c1', .slice a2' n2' c2']] W (BoP true W) from mg_in HMG.out ho h3 h4)
                  go_wp2
                  refine start_ (n := 12) (S := fun w' => w'.cell? ⟨w.heap.size + 1 + 1, 0, none⟩ = some (.int .i64 kdv) ∧ w'.cell? ⟨w.heap.size + 1 + 1, 1, none⟩ = some (.string txv) ∧ w'.cell? ⟨w.heap.size + 1 + 1, 2, none⟩ = some (.slice akv nkv ckv) ∧ w'.cell? ⟨w.heap.size + 1 + 1, 3, none⟩ = some (.slice a1v n1v c1v) ∧ w'.cell? ⟨w.heap.size + 1 + 1 + 1, 0, none⟩ = some (.int .i64 kdu) ∧ w'.cell? ⟨w.heap.size + 1 + 1 + 1, 1, none⟩ = some (.string txu) ∧ w'.cell? ⟨w.heap.size + 1 + 1 + 1, 2, none⟩ = some (.slice aku nku cku) ∧ w'.cell? ⟨w.heap.size + 1 + 1 + 1, 3, none⟩ = some (.slice a1u n1u c1u) ∧ w'.cell? ⟨w10.heap.size, 0, none⟩ = some (.int .i64 (oI om).kind) ∧ w'.cell? ⟨w10.heap.size, 1, none⟩ = some (.string ⟨#[]⟩) ∧ w'.cell? ⟨w10.heap.size, 2, none⟩ = some (.string ⟨#[]⟩) ∧ w'.cell? ⟨w10.heap.size, 3, none⟩ = some (.slice akm nkm ckm) ∧ w'.cell? ⟨w10.heap.size, 4, none⟩ = some (.slice a1m n1m c1m) ∧ w'.cell? ⟨w10.heap.size, 5, none⟩ = some (.slice a2m n2m c2m)) (ds := []) (lb 12 0) (by kernel_rfl) rfl rfl ⟨cell_blk HQE.out.dr.v 0 rfl, cell_blk HQE.out.dr.v 1 rfl, cell_blk HQE.out.dr.v 2 rfl, cell_blk HQE.out.dr.v 3 rfl, cell_blk HQE.out.dr.u 0 rfl, cell_blk HQE.out.dr.u 1 rfl, cell_blk HQE.out.dr.u 2 rfl, cell_blk HQE.out.dr.u 3 rfl, cell_blk HME.out 0 rfl, cell_blk HME.out 1 rfl, cell_blk HME.out 2 rfl, cell_blk HME.out 3 rfl, cell_blk HME.out 4 rfl, cell_blk HME.out 5 rfl⟩ (fun hHeld => ?_)
                  refine take_ (i := 0) (N := some 110) (v := ?_) (a' := ?_) (lb 12 1) rfl rfl (by kernel_rfl) (fun _ _ _ h => h) (Or.inl ⟨by rfl, ?_⟩) hHeld ?_ ?_
                  rotate_left
                  · rintro w' ⟨s0, s1, s2, s3, s4, s5, s6, s7, s8, s9, s10, s11, s12, s13⟩
                    go_simp
                    with_reducible rfl
                  rotate_left
                  · simp only [Act.put, nrA, nrB, nrC, i64_w, i32_w]
                    rfl
                  refine take_ (i := 2) (N := some 112) (v := ?_) (a' := ?_) (lb 12 5) rfl rfl (by kernel_rfl) (fun _ _ _ h => h) (Or.inl ⟨by rfl, ?_⟩) hHeld ?_ ?_
                  rotate_left
                  · rintro w' ⟨s0, s1, s2, s3, s4, s5, s6, s7, s8, s9, s10, s11, s12, s13⟩
                    go_simp
                    with_reducible rfl
                  rotate_left
                  · simp only [Act.put, nrA, nrB, nrC, i64_w, i32_w]
                    rfl
                  refine take_ (i := 5) (N := some 115) (v := ?_) (a' := ?_) (lb 12 37) rfl rfl (by kernel_rfl) (fun _ _ _ h => h) (Or.inl ⟨by rfl, ?_⟩) hHeld ?_ ?_
                  rotate_left
                  · rintro w' ⟨s0, s1, s2, s3, s4, s5, s6, s7, s8, s9, s10, s11, s12, s13⟩
                    go_simp
                    with_reducible rfl
                  rotate_left
                  · simp only [Act.put, nrA, nrB, nrC, i64_w, i32_w]
                    rfl
                  refine one_ (i := 1) (N := some 111) (lb 12 39) rfl rfl (by kernel_rfl) (by decide) (fun K hK => ?_)
                  have hQ30 := HQE.out.dr
                  have hM30 := HME.out
                  have hT30 := HTE.out.mono (mle_drew (MLe.refl _))
                  refine goes_ Tryz.func14 (by kernel_rfl) rfl #[.agg #[.int .i64 kdv, .string txv, .slice akv nkv ckv, .slice a1v n1v c1v]] (by rfl) rfl rfl (by simp only [List.map_toArray, List.map_cons, List.map_nil]; rfl) ?_
                  with_reducible refine (HVCv.out _ (HM.out.trans (mle_below hQ30.bel))).mono ?_
                  rintro e w31 ⟨kd31, tx31, ak31, nk31, ck31, a131, n131, c131, rfl, hmv31, hb31⟩
                  refine ⟨_, rfl, ?_⟩
                  have hQ31 := hQ30.bl hb31
                  have hM31 := bl_heap hb31 hM30
                  have hT31 := hT30.mono (mle_below hb31)
                  refine hK.out _ _ ⟨cell_blk hQ31.v 0 rfl, cell_blk hQ31.v 1 rfl, cell_blk hQ31.v 2 rfl, cell_blk hQ31.v 3 rfl, cell_blk hQ31.u 0 rfl, cell_blk hQ31.u 1 rfl, cell_blk hQ31.u 2 rfl, cell_blk hQ31.u 3 rfl, cell_blk hM31 0 rfl, cell_blk hM31 1 rfl, cell_blk hM31 2 rfl, cell_blk hM31 3 rfl, cell_blk hM31 4 rfl, cell_blk hM31 5 rfl⟩ (fun hHeld => ?_)
                  clear hK K
                  refine norm_ (a' := ?_) ?_ ?_
                  rotate_left
                  · show Act.put _ (some 111) _ = _
                    simp only [Act.put, nrA, nrB, nrC, i64_w, i32_w]
                    rfl
                  refine one_ (i := 3) (N := some 113) (lb 12 47) rfl rfl (by kernel_rfl) (by decide) (fun K hK => ?_)
                  refine goes_ Tryz.func14 (by kernel_rfl) rfl #[.agg #[.int .i64 kdu, .string txu, .slice aku nku cku, .slice a1u n1u c1u]] (by rfl) rfl rfl (by simp only [List.map_toArray, List.map_cons, List.map_nil]; rfl) ?_
                  with_reducible refine (HVCu.out _ (HM.out.trans (mle_below hQ31.bel))).mono ?_
                  rintro e w32 ⟨kd32, tx32, ak32, nk32, ck32, a132, n132, c132, rfl, hmv32, hb32⟩
                  refine ⟨_, rfl, ?_⟩
                  have hQ32 := hQ31.bl hb32
                  have hM32 := bl_heap hb32 hM31
                  have hT32 := hT31.mono (mle_below hb32)
                  refine hK.out _ _ ⟨cell_blk hQ32.v 0 rfl, cell_blk hQ32.v 1 rfl, cell_blk hQ32.v 2 rfl, cell_blk hQ32.v 3 rfl, cell_blk hQ32.u 0 rfl, cell_blk hQ32.u 1 rfl, cell_blk hQ32.u 2 rfl, cell_blk hQ32.u 3 rfl, cell_blk hM32 0 rfl, cell_blk hM32 1 rfl, cell_blk hM32 2 rfl, cell_blk hM32 3 rfl, cell_blk hM32 4 rfl, cell_blk hM32 5 rfl⟩ (fun hHeld => ?_)
                  clear hK K
                  refine norm_ (a' := ?_) ?_ ?_
                  rotate_left
                  · show Act.put _ (some 113) _ = _
                    simp only [Act.put, nrA, nrB, nrC, i64_w, i32_w]
                    rfl
                  refine one_ (i := 4) (N := some 114) (lb 12 63) rfl rfl (by kernel_rfl) (by decide) (fun K hK => ?_)
                  refine goes_ Tryz.func28 (by kernel_rfl) rfl #[.agg #[.int .i64 kd31, .string tx31, .slice ak31 nk31 ck31, .slice a131 n131 c131], .agg #[.int .i64 kd32, .string tx32, .slice ak32 nk32 ck32, .slice a132 n132 c132]] (by rfl) rfl rfl (by simp only [List.map_toArray, List.map_cons, List.map_nil]; rfl) ?_
                  with_reducible refine (HOV.out _ _ _ _ _ _ _ _ _ _ _ _ _ _ _ _ _ (hmv31.mono ((fr_le (HM.out.trans (mle_below hQ31.bel))).trans (mle_below hb32))) (hmv32.mono (fr_le (HM.out.trans (mle_below hQ32.bel))))).mono ?_
                  rintro e w33 ⟨out33, ak33, nk33, ck33, a133, n133, c133, rfl, ho33, hmv33, hb33⟩
                  refine ⟨_, rfl, ?_⟩
                  have hQ33 := hQ32.bl hb33
                  have hM33 := bl_heap hb33 hM32
                  have hT33 := hT32.mono (mle_below hb33)
                  refine hK.out _ _ ⟨cell_blk hQ33.v 0 rfl, cell_blk hQ33.v 1 rfl, cell_blk hQ33.v 2 rfl, cell_blk hQ33.v 3 rfl, cell_blk hQ33.u 0 rfl, cell_blk hQ33.u 1 rfl, cell_blk hQ33.u 2 rfl, cell_blk hQ33.u 3 rfl, cell_blk hM33 0 rfl, cell_blk hM33 1 rfl, cell_blk hM33 2 rfl, cell_blk hM33 3 rfl, cell_blk hM33 4 rfl, cell_blk hM33 5 rfl⟩ (fun hHeld => ?_)
                  clear hK K
                  refine norm_ (a' := ?_) ?_ ?_
                  rotate_left
                  · show Act.put _ (some 114) _ = _
                    simp only [Act.put, nrA, nrB, nrC, i64_w, i32_w]
                    rfl
                  refine one_ (i := 6) (N := some 116) (lb 12 127) rfl rfl (by kernel_rfl) (by decide) (fun K hK => ?_)
                  refine goes_ Tryz.func20 (by kernel_rfl) rfl #[.agg #[.int .i64 (oI om).kind, .string ⟨#[]⟩, .string ⟨#[]⟩, .slice akm nkm ckm, .slice a1m n1m c1m, .slice a2m n2m c2m]] (by rfl) rfl rfl (by simp only [List.map_toArray, List.map_cons, List.map_nil]; rfl) ?_
                  with_reducible refine (HGV.out _ hT33).mono ?_
                  rintro e w34 ⟨kd34, ak34, nk34, ck34, a134, n134, c134, a234, n234, c234, rfl, hmt34, hb34⟩
                  refine ⟨_, rfl, ?_⟩
                  have hQ34 := hQ33.bl hb34
                  have hM34 := bl_heap hb34 hM33
                  have hT34 := hT33.mono (mle_below hb34)
                  refine hK.out _ _ ⟨cell_blk hQ34.v 0 rfl, cell_blk hQ34.v 1 rfl, cell_blk hQ34.v 2 rfl, cell_blk hQ34.v 3 rfl, cell_blk hQ34.u 0 rfl, cell_blk hQ34.u 1 rfl, cell_blk hQ34.u 2 rfl, cell_blk hQ34.u 3 rfl, cell_blk hM34 0 rfl, cell_blk hM34 1 rfl, cell_blk hM34 2 rfl, cell_blk hM34 3 rfl, cell_blk hM34 4 rfl, cell_blk hM34 5 rfl⟩ (fun hHeld => ?_)
                  clear hK K
                  refine norm_ (a' := ?_) ?_ ?_
                  rotate_left
                  · show Act.put _ (some 116) _ = _
                    simp only [Act.put, nrA, nrB, nrC, i64_w, i32_w]
                    rfl
                  refine one_ (i := 7) (N := some 117) (lb 12 255) rfl rfl (by kernel_rfl) (by decide) (fun K hK => ?_)
                  refine goes_ Tryz.func15 (by kernel_rfl) rfl #[.agg #[.int .i64 6, .string ⟨#[]⟩, .slice ak33 nk33 ck33, .slice a133 n133 c133], .agg #[.int .i64 kd34, .slice ak34 nk34 ck34, .slice a134 n134 c134, .slice a234 n234 c234]] (by rfl) rfl rfl (by simp only [List.map_toArray, List.map_cons, List.map_nil]; rfl) ?_
                  with_reducible refine (HMI2.out _ _ _ _ _ _ _ _ _ _ _ _ _ _ _ _ _ _ ho33 (hmv33.mono ((fr_le (mle_below hb33)).trans (mle_below hb34))) (hmt34.mono (fr_le (mle_below hb34)))).mono ?_
                  rintro e w35 ⟨rfl, hg35⟩
                  refine ⟨_, rfl, ?_⟩
                  have hQ35 := hQ34.bl hg35.below
                  have hM35 := bl_heap hg35.below hM34
                  have hT35 := hT34.mono (mle_below hg35.below)
                  refine hK.out _ _ ⟨cell_blk hQ35.v 0 rfl, cell_blk hQ35.v 1 rfl, cell_blk hQ35.v 2 rfl, cell_blk hQ35.v 3 rfl, cell_blk hQ35.u 0 rfl, cell_blk hQ35.u 1 rfl, cell_blk hQ35.u 2 rfl, cell_blk hQ35.u 3 rfl, cell_blk hM35 0 rfl, cell_blk hM35 1 rfl, cell_blk hM35 2 rfl, cell_blk hM35 3 rfl, cell_blk hM35 4 rfl, cell_blk hM35 5 rfl⟩ (fun hHeld => ?_)
                  clear hK K
                  refine norm_ (a' := ?_) ?_ ?_
                  rotate_left
                  · show Act.put _ (some 117) _ = _
                    simp only [Act.put, nrA, nrB, nrC, i64_w, i32_w]
                    rfl
                  refine pure_ (i := 8) (N := some 118) (v := ?_) (a' := ?_) (lb 12 511) rfl rfl (by kernel_rfl) (fun _ _ _ h => h) (Or.inl ⟨by rfl, ?_⟩) ?_ ?_
                  rotate_left
                  · intro w'
                    go_simp
                    with_reducible rfl
                  rotate_left
                  · simp only [Act.put, nrA, nrB, nrC, i64_w, i32_w]
                    rfl
                  refine one_ (i := 9) (N := some 119) (lb 12 1023) rfl rfl (by kernel_rfl) (by decide) (fun K hK => ?_)
                  refine goes_ Tryz.func17 (by kernel_rfl) rfl #[] (by rfl) rfl rfl (by simp only [List.map_toArray, List.map_cons, List.map_nil]) ?_
                  with_reducible refine (works_any w35).mono ?_
                  rintro e w36 ⟨rfl, hg36⟩
                  refine ⟨_, rfl, ?_⟩
                  have hQ36 := hQ35.bl hg36.below
                  have hM36 := bl_heap hg36.below hM35
                  have hT36 := hT35.mono (mle_below hg36.below)
                  refine hK.out _ _ ⟨cell_blk hQ36.v 0 rfl, cell_blk hQ36.v 1 rfl, cell_blk hQ36.v 2 rfl, cell_blk hQ36.v 3 rfl, cell_blk hQ36.u 0 rfl, cell_blk hQ36.u 1 rfl, cell_blk hQ36.u 2 rfl, cell_blk hQ36.u 3 rfl, cell_blk hM36 0 rfl, cell_blk hM36 1 rfl, cell_blk hM36 2 rfl, cell_blk hM36 3 rfl, cell_blk hM36 4 rfl, cell_blk hM36 5 rfl⟩ (fun hHeld => ?_)
                  clear hK K
                  refine norm_ (a' := ?_) ?_ ?_
                  rotate_left
                  · show Act.put _ (some 119) _ = _
                    simp only [Act.put, nrA, nrB, nrC, i64_w, i32_w]
                    rfl
                  refine pure_ (i := 10) (N := some 120) (v := ?_) (a' := ?_) (lb 12 2047) rfl rfl (by kernel_rfl) (fun _ _ _ h => h) (Or.inl ⟨by rfl, ?_⟩) ?_ ?_
                  rotate_left
                  · intro w'
                    go_simp
                    with_reducible rfl
                  rotate_left
                  · simp only [Act.put, nrA, nrB, nrC, i64_w, i32_w]
                    rfl
                  refine pure_ (i := 11) (N := some 8) (v := ?_) (a' := ?_) (lb 12 4095) rfl rfl (by kernel_rfl) (fun _ _ _ h => h) (Or.inl ⟨by rfl, ?_⟩) ?_ ?_
                  rotate_left
                  · intro w'
                    go_simp
                    with_reducible rfl
                  rotate_left
                  · simp only [Act.put, nrA, nrB, nrC, i64_w, i32_w]
                    rfl
                  refine done_ (by kernel_rfl) ?_
                  go_wp2
                  go_ret
                  exact ⟨rfl, hQ36.bel⟩
              · have hna1 : decide (0 < n2a) = false := by simp; omega
                have hna2 : decide ((0 : Int) < (n2a : Int)) = false := by simp; omega
                have HMG := Lib.hid (mgH_of (HPT.out trivial) (HPV7.out trivial) (HPV9.out trivial) (HOK.out.1 trivial) (HKB.out.1.symm.trans H6.out) (HOM.out trivial) hi14.out hi17.out hd21.out hd24.out (.inl (by have := HKA.out.2; omega)))
                clear hma
                refine hK.out _ _ ⟨cell_blk hQ24.a 0 rfl, cell_blk hQ24.a 1 rfl, cell_blk hQ24.a 2 rfl, cell_blk hQ24.a 3 rfl, cell_blk hQ24.a 4 rfl, cell_blk hQ24.a 5 rfl, cell_blk hQ24.b 0 rfl, cell_blk hQ24.b 1 rfl, cell_blk hQ24.b 2 rfl, cell_blk hQ24.b 3 rfl, cell_blk hQ24.b 4 rfl, cell_blk hQ24.b 5 rfl, cell_blk hQ24.v 0 rfl, cell_blk hQ24.v 1 rfl, cell_blk hQ24.v 2 rfl, cell_blk hQ24.v 3 rfl, cell_blk hQ24.u 0 rfl, cell_blk hQ24.u 1 rfl, cell_blk hQ24.u 2 rfl, cell_blk hQ24.u 3 rfl⟩ (fun hHeld => ?_)
                clear hK K
                refine norm_ (a' := ?_) ?_ ?_
                rotate_left
                · show Act.put _ (some 95) _ = _
                  simp only [Act.put, nrA, nrB, nrC, i64_w, i32_w]
                  rfl
                refine pure_ (i := 38) (N := some 96) (v := ?_) (a' := ?_) (lb 51 549755813887) rfl rfl (by kernel_rfl) (fun _ _ _ h => h) (Or.inl ⟨by rfl, ?_⟩) ?_ ?_
                rotate_left
                · intro w'
                  go_simp
                  with_reducible rfl
                rotate_left
                · simp only [Act.put, nrA, nrB, nrC, i64_w, i32_w]
                  rfl
                refine pure_ (i := 39) (N := some 97) (v := ?_) (a' := ?_) (lb 51 1099511627775) rfl rfl (by kernel_rfl) (fun _ _ _ h => h) (Or.inl ⟨by rfl, ?_⟩) ?_ ?_
                rotate_left
                · intro w'
                  go_simp
                  with_reducible rfl
                rotate_left
                · simp only [Act.put, nrA, nrB, nrC, i64_w, i32_w]
                  rfl
                refine pure_ (i := 40) (N := some 98) (v := ?_) (a' := ?_) (lb 51 2199023255551) rfl rfl (by kernel_rfl) (fun _ _ _ h => h) (Or.inl ⟨by rfl, ?_⟩) ?_ ?_
                rotate_left
                · intro w'
                  go_simp
                  with_reducible rfl
                rotate_left
                · simp only [Act.put, nrA, nrB, nrC, i64_w, i32_w]
                  rfl
                refine take_ (i := 41) (N := some 99) (v := ?_) (a' := ?_) (lb 51 4398046511103) rfl rfl (by kernel_rfl) (fun _ _ _ h => h) (Or.inl ⟨by rfl, ?_⟩) hHeld ?_ ?_
                rotate_left
                · rintro w' ⟨s0, s1, s2, s3, s4, s5, s6, s7, s8, s9, s10, s11, s12, s13, s14, s15, s16, s17, s18, s19⟩
                  go_simp
                  with_reducible rfl
                rotate_left
                · simp only [Act.put, nrA, nrB, nrC, i64_w, i32_w]
                  rfl
                refine pure_ (i := 42) (N := some 100) (v := ?_) (a' := ?_) (lb 51 8796093022207) rfl rfl (by kernel_rfl) (fun _ _ _ h => h) (Or.inl ⟨by rfl, ?_⟩) ?_ ?_
                rotate_left
                · intro w'
                  go_simp
                  with_reducible rfl
                rotate_left
                · simp only [Act.put, nrA, nrB, nrC, i64_w, i32_w]
                  rfl
                refine pure_ (i := 43) (N := some 101) (v := ?_) (a' := ?_) (lb 51 17592186044415) rfl rfl (by kernel_rfl) (fun _ _ _ h => h) (Or.inl ⟨by rfl, ?_⟩) ?_ ?_
                rotate_left
                · intro w'
                  go_simp
                  with_reducible rfl
                rotate_left
                · simp only [Act.put, nrA, nrB, nrC, i64_w, i32_w]
                  rfl
                refine pure_ (i := 44) (N := some 102) (v := ?_) (a' := ?_) (lb 51 35184372088831) rfl rfl (by kernel_rfl) (fun _ _ _ h => h) (Or.inl ⟨by rfl, ?_⟩) ?_ ?_
                rotate_left
                · intro w'
                  go_simp
                  with_reducible rfl
                rotate_left
                · simp only [Act.put, nrA, nrB, nrC, i64_w, i32_w]
                  rfl
                refine pure_ (i := 45) (N := some 103) (v := undef) (a' := ?_) (lb 51 70368744177663) rfl rfl (by kernel_rfl) (fun _ _ _ h => h) (Or.inr ⟨by rfl, rfl⟩) ?_ ?_
                rotate_left
                · simp only [Act.put, nrA, nrB, nrC, i64_w, i32_w]
                  rfl
                refine pure_ (i := 46) (N := some 104) (v := undef) (a' := ?_) (lb 51 140737488355327) rfl rfl (by kernel_rfl) (fun _ _ _ h => h) (Or.inr ⟨by rfl, rfl⟩) ?_ ?_
                rotate_left
                · simp only [Act.put, nrA, nrB, nrC, i64_w, i32_w]
                  rfl
                refine pure_ (i := 47) (N := some 105) (v := undef) (a' := ?_) (lb 51 281474976710655) rfl rfl (by kernel_rfl) (fun _ _ _ h => h) (Or.inr ⟨by rfl, rfl⟩) ?_ ?_
                rotate_left
                · simp only [Act.put, nrA, nrB, nrC, i64_w, i32_w]
                  rfl
                refine pure_ (i := 48) (N := some 106) (v := undef) (a' := ?_) (lb 51 562949953421311) rfl rfl (by kernel_rfl) (fun _ _ _ h => h) (Or.inr ⟨by rfl, rfl⟩) ?_ ?_
                rotate_left
                · simp only [Act.put, nrA, nrB, nrC, i64_w, i32_w]
                  rfl
                refine pure_ (i := 49) (N := some 107) (v := ?_) (a' := ?_) (lb 51 1125899906842623) rfl rfl (by kernel_rfl) (fun _ _ _ h => h) (Or.inl ⟨by rfl, ?_⟩) ?_ ?_
                rotate_left
                · intro w'
                  go_simp
                  with_reducible rfl
                rotate_left
                · simp only [Act.put, nrA, nrB, nrC, i64_w, i32_w]
                  rfl
                refine pure_ (i := 50) (N := some 108) (v := ?_) (a' := ?_) (lb 51 2251799813685247) rfl rfl (by kernel_rfl) (fun _ _ _ h => h) (Or.inl ⟨by rfl, ?_⟩) ?_ ?_
                rotate_left
                · intro w'
                  go_simp
                  with_reducible rfl
                rotate_left
                · simp only [Act.put, nrA, nrB, nrC, i64_w, i32_w]
                  rfl
                refine done_ (by kernel_rfl) ?_
                have HQE := Lib.hid hQ24
                have HME := Lib.hid hM24
                have HTE := Lib.hid hT24
                clear hHeld hQ11 hM11 hT11 hmv12 hb12 hQ12 hM12 hT12 hmt13 hb13 hQ13 hM13 hT13 hi14 hb14 hQ14 hM14 hT14 hmv15 hb15 hQ15 hM15 hT15 hmt16 hb16 hQ16 hM16 hT16 hi17 hb17 hQ17 hM17 hT17 hmv18 hb18 hQ18 hM18 hT18 hmt19 hb19 hQ19 hM19 hT19 hmt20 hb20 hQ20 hM20 hT20 hd21 hb21 hQ21 hM21 hT21 hmt22 hb22 hQ22 hM22 hT22 hmt23 hb23 hQ23 hM23 hT23 hd24 hb24 hQ24 hM24 hT24
                have HOV := Lib.hid (fun (W : World) (kv tv akv nkv ckv a1v n1v c1v ku tu aku nku cku a1u n1u c1u) (h1 : MV W.cell? (vlCells kv tv akv nkv ckv a1v n1v c1v) (valOf v)) (h2 : MV W.cell? (vlCells ku tu aku nku cku a1u n1u c1u) (valOf u)) => show Calls Tryz.prog 28 #[.agg #[.int .i64 kv, .string tv, .slice akv nkv ckv, .slice a1v n1v c1v], .agg #[.int .i64 ku, .string tu, .slice aku nku cku, .slice a1u n1u c1u]] W (OvQ W.cell? v u W) from over_any (by have h := h1; rw [HMG.out.ev] at h; exact h) (by have h := h2; rw [HMG.out.eu] at h; exact h) HMG.out.pv HMG.out.pu HMG.out.kv HMG.out.ku HMG.out.wv HMG.out.wu (MLe.refl _))
                have HGV := Lib.hid (fun (W : World) (h : MIT W.cell? (itCells (oI om).kind ⟨#[]⟩ ⟨#[]⟩ akm nkm ckm a1m n1m c1m a2m n2m c2m) (oI om)) => show Calls Tryz.prog 20 #[.agg #[.int .i64 (oI om).kind, .string ⟨#[]⟩, .string ⟨#[]⟩, .slice akm nkm ckm, .slice a1m n1m c1m, .slice a2m n2m c2m]] W (CpT (givenOf (oI om)) W.cell? W) from given_any (oI om) W.cell? _ _ _ _ _ _ _ _ _ _ _ _ W HMG.out.bd h (MLe.refl _))
                have HMI2 := Lib.hid (fun (W : World) (out : List KV) (ak nk ck a1 n1 c1 kd' ak' nk' ck' a1' n1' c1' a2' n2' c2') (ho : OvR v u out) (h3 : MV W.cell? (vlCells 6 ⟨#[]⟩ ak nk ck a1 n1 c1) (obV out)) (h4 : MST W.cell? (stCells kd' ak' nk' ck' a1' n1' c1' a2' n2' c2') (givenOf (oI om))) => show Calls Tryz.prog 15 #[.agg #[.int .i64 6, .string ⟨#[]⟩, .slice ak nk ck, .slice a1 n1 c1], .agg #[.int .i64 kd', .slice ak' nk' ck', .slice a1' n1' c1', .slice a2' n2' c2']] W (BoP true W) from mg_in HMG.out ho h3 h4)
                go_wp2
                refine start_ (n := 12) (S := fun w' => w'.cell? ⟨w.heap.size + 1 + 1, 0, none⟩ = some (.int .i64 kdv) ∧ w'.cell? ⟨w.heap.size + 1 + 1, 1, none⟩ = some (.string txv) ∧ w'.cell? ⟨w.heap.size + 1 + 1, 2, none⟩ = some (.slice akv nkv ckv) ∧ w'.cell? ⟨w.heap.size + 1 + 1, 3, none⟩ = some (.slice a1v n1v c1v) ∧ w'.cell? ⟨w.heap.size + 1 + 1 + 1, 0, none⟩ = some (.int .i64 kdu) ∧ w'.cell? ⟨w.heap.size + 1 + 1 + 1, 1, none⟩ = some (.string txu) ∧ w'.cell? ⟨w.heap.size + 1 + 1 + 1, 2, none⟩ = some (.slice aku nku cku) ∧ w'.cell? ⟨w.heap.size + 1 + 1 + 1, 3, none⟩ = some (.slice a1u n1u c1u) ∧ w'.cell? ⟨w10.heap.size, 0, none⟩ = some (.int .i64 (oI om).kind) ∧ w'.cell? ⟨w10.heap.size, 1, none⟩ = some (.string ⟨#[]⟩) ∧ w'.cell? ⟨w10.heap.size, 2, none⟩ = some (.string ⟨#[]⟩) ∧ w'.cell? ⟨w10.heap.size, 3, none⟩ = some (.slice akm nkm ckm) ∧ w'.cell? ⟨w10.heap.size, 4, none⟩ = some (.slice a1m n1m c1m) ∧ w'.cell? ⟨w10.heap.size, 5, none⟩ = some (.slice a2m n2m c2m)) (ds := []) (lb 12 0) (by kernel_rfl) rfl rfl ⟨cell_blk HQE.out.dr.v 0 rfl, cell_blk HQE.out.dr.v 1 rfl, cell_blk HQE.out.dr.v 2 rfl, cell_blk HQE.out.dr.v 3 rfl, cell_blk HQE.out.dr.u 0 rfl, cell_blk HQE.out.dr.u 1 rfl, cell_blk HQE.out.dr.u 2 rfl, cell_blk HQE.out.dr.u 3 rfl, cell_blk HME.out 0 rfl, cell_blk HME.out 1 rfl, cell_blk HME.out 2 rfl, cell_blk HME.out 3 rfl, cell_blk HME.out 4 rfl, cell_blk HME.out 5 rfl⟩ (fun hHeld => ?_)
                refine take_ (i := 0) (N := some 110) (v := ?_) (a' := ?_) (lb 12 1) rfl rfl (by kernel_rfl) (fun _ _ _ h => h) (Or.inl ⟨by rfl, ?_⟩) hHeld ?_ ?_
                rotate_left
                · rintro w' ⟨s0, s1, s2, s3, s4, s5, s6, s7, s8, s9, s10, s11, s12, s13⟩
                  go_simp
                  with_reducible rfl
                rotate_left
                · simp only [Act.put, nrA, nrB, nrC, i64_w, i32_w]
                  rfl
                refine take_ (i := 2) (N := some 112) (v := ?_) (a' := ?_) (lb 12 5) rfl rfl (by kernel_rfl) (fun _ _ _ h => h) (Or.inl ⟨by rfl, ?_⟩) hHeld ?_ ?_
                rotate_left
                · rintro w' ⟨s0, s1, s2, s3, s4, s5, s6, s7, s8, s9, s10, s11, s12, s13⟩
                  go_simp
                  with_reducible rfl
                rotate_left
                · simp only [Act.put, nrA, nrB, nrC, i64_w, i32_w]
                  rfl
                refine take_ (i := 5) (N := some 115) (v := ?_) (a' := ?_) (lb 12 37) rfl rfl (by kernel_rfl) (fun _ _ _ h => h) (Or.inl ⟨by rfl, ?_⟩) hHeld ?_ ?_
                rotate_left
                · rintro w' ⟨s0, s1, s2, s3, s4, s5, s6, s7, s8, s9, s10, s11, s12, s13⟩
                  go_simp
                  with_reducible rfl
                rotate_left
                · simp only [Act.put, nrA, nrB, nrC, i64_w, i32_w]
                  rfl
                refine one_ (i := 1) (N := some 111) (lb 12 39) rfl rfl (by kernel_rfl) (by decide) (fun K hK => ?_)
                have hQ30 := HQE.out.dr
                have hM30 := HME.out
                have hT30 := HTE.out.mono (mle_drew (MLe.refl _))
                refine goes_ Tryz.func14 (by kernel_rfl) rfl #[.agg #[.int .i64 kdv, .string txv, .slice akv nkv ckv, .slice a1v n1v c1v]] (by rfl) rfl rfl (by simp only [List.map_toArray, List.map_cons, List.map_nil]; rfl) ?_
                with_reducible refine (HVCv.out _ (HM.out.trans (mle_below hQ30.bel))).mono ?_
                rintro e w31 ⟨kd31, tx31, ak31, nk31, ck31, a131, n131, c131, rfl, hmv31, hb31⟩
                refine ⟨_, rfl, ?_⟩
                have hQ31 := hQ30.bl hb31
                have hM31 := bl_heap hb31 hM30
                have hT31 := hT30.mono (mle_below hb31)
                refine hK.out _ _ ⟨cell_blk hQ31.v 0 rfl, cell_blk hQ31.v 1 rfl, cell_blk hQ31.v 2 rfl, cell_blk hQ31.v 3 rfl, cell_blk hQ31.u 0 rfl, cell_blk hQ31.u 1 rfl, cell_blk hQ31.u 2 rfl, cell_blk hQ31.u 3 rfl, cell_blk hM31 0 rfl, cell_blk hM31 1 rfl, cell_blk hM31 2 rfl, cell_blk hM31 3 rfl, cell_blk hM31 4 rfl, cell_blk hM31 5 rfl⟩ (fun hHeld => ?_)
                clear hK K
                refine norm_ (a' := ?_) ?_ ?_
                rotate_left
                · show Act.put _ (some 111) _ = _
                  simp only [Act.put, nrA, nrB, nrC, i64_w, i32_w]
                  rfl
                refine one_ (i := 3) (N := some 113) (lb 12 47) rfl rfl (by kernel_rfl) (by decide) (fun K hK => ?_)
                refine goes_ Tryz.func14 (by kernel_rfl) rfl #[.agg #[.int .i64 kdu, .string txu, .slice aku nku cku, .slice a1u n1u c1u]] (by rfl) rfl rfl (by simp only [List.map_toArray, List.map_cons, List.map_nil]; rfl) ?_
                with_reducible refine (HVCu.out _ (HM.out.trans (mle_below hQ31.bel))).mono ?_
                rintro e w32 ⟨kd32, tx32, ak32, nk32, ck32, a132, n132, c132, rfl, hmv32, hb32⟩
                refine ⟨_, rfl, ?_⟩
                have hQ32 := hQ31.bl hb32
                have hM32 := bl_heap hb32 hM31
                have hT32 := hT31.mono (mle_below hb32)
                refine hK.out _ _ ⟨cell_blk hQ32.v 0 rfl, cell_blk hQ32.v 1 rfl, cell_blk hQ32.v 2 rfl, cell_blk hQ32.v 3 rfl, cell_blk hQ32.u 0 rfl, cell_blk hQ32.u 1 rfl, cell_blk hQ32.u 2 rfl, cell_blk hQ32.u 3 rfl, cell_blk hM32 0 rfl, cell_blk hM32 1 rfl, cell_blk hM32 2 rfl, cell_blk hM32 3 rfl, cell_blk hM32 4 rfl, cell_blk hM32 5 rfl⟩ (fun hHeld => ?_)
                clear hK K
                refine norm_ (a' := ?_) ?_ ?_
                rotate_left
                · show Act.put _ (some 113) _ = _
                  simp only [Act.put, nrA, nrB, nrC, i64_w, i32_w]
                  rfl
                refine one_ (i := 4) (N := some 114) (lb 12 63) rfl rfl (by kernel_rfl) (by decide) (fun K hK => ?_)
                refine goes_ Tryz.func28 (by kernel_rfl) rfl #[.agg #[.int .i64 kd31, .string tx31, .slice ak31 nk31 ck31, .slice a131 n131 c131], .agg #[.int .i64 kd32, .string tx32, .slice ak32 nk32 ck32, .slice a132 n132 c132]] (by rfl) rfl rfl (by simp only [List.map_toArray, List.map_cons, List.map_nil]; rfl) ?_
                with_reducible refine (HOV.out _ _ _ _ _ _ _ _ _ _ _ _ _ _ _ _ _ (hmv31.mono ((fr_le (HM.out.trans (mle_below hQ31.bel))).trans (mle_below hb32))) (hmv32.mono (fr_le (HM.out.trans (mle_below hQ32.bel))))).mono ?_
                rintro e w33 ⟨out33, ak33, nk33, ck33, a133, n133, c133, rfl, ho33, hmv33, hb33⟩
                refine ⟨_, rfl, ?_⟩
                have hQ33 := hQ32.bl hb33
                have hM33 := bl_heap hb33 hM32
                have hT33 := hT32.mono (mle_below hb33)
                refine hK.out _ _ ⟨cell_blk hQ33.v 0 rfl, cell_blk hQ33.v 1 rfl, cell_blk hQ33.v 2 rfl, cell_blk hQ33.v 3 rfl, cell_blk hQ33.u 0 rfl, cell_blk hQ33.u 1 rfl, cell_blk hQ33.u 2 rfl, cell_blk hQ33.u 3 rfl, cell_blk hM33 0 rfl, cell_blk hM33 1 rfl, cell_blk hM33 2 rfl, cell_blk hM33 3 rfl, cell_blk hM33 4 rfl, cell_blk hM33 5 rfl⟩ (fun hHeld => ?_)
                clear hK K
                refine norm_ (a' := ?_) ?_ ?_
                rotate_left
                · show Act.put _ (some 114) _ = _
                  simp only [Act.put, nrA, nrB, nrC, i64_w, i32_w]
                  rfl
                refine one_ (i := 6) (N := some 116) (lb 12 127) rfl rfl (by kernel_rfl) (by decide) (fun K hK => ?_)
                refine goes_ Tryz.func20 (by kernel_rfl) rfl #[.agg #[.int .i64 (oI om).kind, .string ⟨#[]⟩, .string ⟨#[]⟩, .slice akm nkm ckm, .slice a1m n1m c1m, .slice a2m n2m c2m]] (by rfl) rfl rfl (by simp only [List.map_toArray, List.map_cons, List.map_nil]; rfl) ?_
                with_reducible refine (HGV.out _ hT33).mono ?_
                rintro e w34 ⟨kd34, ak34, nk34, ck34, a134, n134, c134, a234, n234, c234, rfl, hmt34, hb34⟩
                refine ⟨_, rfl, ?_⟩
                have hQ34 := hQ33.bl hb34
                have hM34 := bl_heap hb34 hM33
                have hT34 := hT33.mono (mle_below hb34)
                refine hK.out _ _ ⟨cell_blk hQ34.v 0 rfl, cell_blk hQ34.v 1 rfl, cell_blk hQ34.v 2 rfl, cell_blk hQ34.v 3 rfl, cell_blk hQ34.u 0 rfl, cell_blk hQ34.u 1 rfl, cell_blk hQ34.u 2 rfl, cell_blk hQ34.u 3 rfl, cell_blk hM34 0 rfl, cell_blk hM34 1 rfl, cell_blk hM34 2 rfl, cell_blk hM34 3 rfl, cell_blk hM34 4 rfl, cell_blk hM34 5 rfl⟩ (fun hHeld => ?_)
                clear hK K
                refine norm_ (a' := ?_) ?_ ?_
                rotate_left
                · show Act.put _ (some 116) _ = _
                  simp only [Act.put, nrA, nrB, nrC, i64_w, i32_w]
                  rfl
                refine one_ (i := 7) (N := some 117) (lb 12 255) rfl rfl (by kernel_rfl) (by decide) (fun K hK => ?_)
                refine goes_ Tryz.func15 (by kernel_rfl) rfl #[.agg #[.int .i64 6, .string ⟨#[]⟩, .slice ak33 nk33 ck33, .slice a133 n133 c133], .agg #[.int .i64 kd34, .slice ak34 nk34 ck34, .slice a134 n134 c134, .slice a234 n234 c234]] (by rfl) rfl rfl (by simp only [List.map_toArray, List.map_cons, List.map_nil]; rfl) ?_
                with_reducible refine (HMI2.out _ _ _ _ _ _ _ _ _ _ _ _ _ _ _ _ _ _ ho33 (hmv33.mono ((fr_le (mle_below hb33)).trans (mle_below hb34))) (hmt34.mono (fr_le (mle_below hb34)))).mono ?_
                rintro e w35 ⟨rfl, hg35⟩
                refine ⟨_, rfl, ?_⟩
                have hQ35 := hQ34.bl hg35.below
                have hM35 := bl_heap hg35.below hM34
                have hT35 := hT34.mono (mle_below hg35.below)
                refine hK.out _ _ ⟨cell_blk hQ35.v 0 rfl, cell_blk hQ35.v 1 rfl, cell_blk hQ35.v 2 rfl, cell_blk hQ35.v 3 rfl, cell_blk hQ35.u 0 rfl, cell_blk hQ35.u 1 rfl, cell_blk hQ35.u 2 rfl, cell_blk hQ35.u 3 rfl, cell_blk hM35 0 rfl, cell_blk hM35 1 rfl, cell_blk hM35 2 rfl, cell_blk hM35 3 rfl, cell_blk hM35 4 rfl, cell_blk hM35 5 rfl⟩ (fun hHeld => ?_)
                clear hK K
                refine norm_ (a' := ?_) ?_ ?_
                rotate_left
                · show Act.put _ (some 117) _ = _
                  simp only [Act.put, nrA, nrB, nrC, i64_w, i32_w]
                  rfl
                refine pure_ (i := 8) (N := some 118) (v := ?_) (a' := ?_) (lb 12 511) rfl rfl (by kernel_rfl) (fun _ _ _ h => h) (Or.inl ⟨by rfl, ?_⟩) ?_ ?_
                rotate_left
                · intro w'
                  go_simp
                  with_reducible rfl
                rotate_left
                · simp only [Act.put, nrA, nrB, nrC, i64_w, i32_w]
                  rfl
                refine one_ (i := 9) (N := some 119) (lb 12 1023) rfl rfl (by kernel_rfl) (by decide) (fun K hK => ?_)
                refine goes_ Tryz.func17 (by kernel_rfl) rfl #[] (by rfl) rfl rfl (by simp only [List.map_toArray, List.map_cons, List.map_nil]) ?_
                with_reducible refine (works_any w35).mono ?_
                rintro e w36 ⟨rfl, hg36⟩
                refine ⟨_, rfl, ?_⟩
                have hQ36 := hQ35.bl hg36.below
                have hM36 := bl_heap hg36.below hM35
                have hT36 := hT35.mono (mle_below hg36.below)
                refine hK.out _ _ ⟨cell_blk hQ36.v 0 rfl, cell_blk hQ36.v 1 rfl, cell_blk hQ36.v 2 rfl, cell_blk hQ36.v 3 rfl, cell_blk hQ36.u 0 rfl, cell_blk hQ36.u 1 rfl, cell_blk hQ36.u 2 rfl, cell_blk hQ36.u 3 rfl, cell_blk hM36 0 rfl, cell_blk hM36 1 rfl, cell_blk hM36 2 rfl, cell_blk hM36 3 rfl, cell_blk hM36 4 rfl, cell_blk hM36 5 rfl⟩ (fun hHeld => ?_)
                clear hK K
                refine norm_ (a' := ?_) ?_ ?_
                rotate_left
                · show Act.put _ (some 119) _ = _
                  simp only [Act.put, nrA, nrB, nrC, i64_w, i32_w]
                  rfl
                refine pure_ (i := 10) (N := some 120) (v := ?_) (a' := ?_) (lb 12 2047) rfl rfl (by kernel_rfl) (fun _ _ _ h => h) (Or.inl ⟨by rfl, ?_⟩) ?_ ?_
                rotate_left
                · intro w'
                  go_simp
                  with_reducible rfl
                rotate_left
                · simp only [Act.put, nrA, nrB, nrC, i64_w, i32_w]
                  rfl
                refine pure_ (i := 11) (N := some 8) (v := ?_) (a' := ?_) (lb 12 4095) rfl rfl (by kernel_rfl) (fun _ _ _ h => h) (Or.inl ⟨by rfl, ?_⟩) ?_ ?_
                rotate_left
                · intro w'
                  go_simp
                  with_reducible rfl
                rotate_left
                · simp only [Act.put, nrA, nrB, nrC, i64_w, i32_w]
                  rfl
                refine done_ (by kernel_rfl) ?_
                go_wp2
                go_ret
                exact ⟨rfl, hQ36.bel⟩
            · clear hd24
              refine hK.out _ _ ⟨cell_blk hQ24.a 0 rfl, cell_blk hQ24.a 1 rfl, cell_blk hQ24.a 2 rfl, cell_blk hQ24.a 3 rfl, cell_blk hQ24.a 4 rfl, cell_blk hQ24.a 5 rfl, cell_blk hQ24.b 0 rfl, cell_blk hQ24.b 1 rfl, cell_blk hQ24.b 2 rfl, cell_blk hQ24.b 3 rfl, cell_blk hQ24.b 4 rfl, cell_blk hQ24.b 5 rfl, cell_blk hQ24.v 0 rfl, cell_blk hQ24.v 1 rfl, cell_blk hQ24.v 2 rfl, cell_blk hQ24.v 3 rfl, cell_blk hQ24.u 0 rfl, cell_blk hQ24.u 1 rfl, cell_blk hQ24.u 2 rfl, cell_blk hQ24.u 3 rfl⟩ (fun hHeld => ?_)
              clear hK K
              refine norm_ (a' := ?_) ?_ ?_
              rotate_left
              · show Act.put _ (some 95) _ = _
                simp only [Act.put, nrA, nrB, nrC, i64_w, i32_w]
                rfl
              refine pure_ (i := 38) (N := some 96) (v := ?_) (a' := ?_) (lb 51 549755813887) rfl rfl (by kernel_rfl) (fun _ _ _ h => h) (Or.inl ⟨by rfl, ?_⟩) ?_ ?_
              rotate_left
              · intro w'
                go_simp
                with_reducible rfl
              rotate_left
              · simp only [Act.put, nrA, nrB, nrC, i64_w, i32_w]
                rfl
              refine pure_ (i := 39) (N := some 97) (v := ?_) (a' := ?_) (lb 51 1099511627775) rfl rfl (by kernel_rfl) (fun _ _ _ h => h) (Or.inl ⟨by rfl, ?_⟩) ?_ ?_
              rotate_left
              · intro w'
                go_simp
                with_reducible rfl
              rotate_left
              · simp only [Act.put, nrA, nrB, nrC, i64_w, i32_w]
                rfl
              refine pure_ (i := 40) (N := some 98) (v := undef) (a' := ?_) (lb 51 2199023255551) rfl rfl (by kernel_rfl) (fun _ _ _ h => h) (Or.inr ⟨by rfl, rfl⟩) ?_ ?_
              rotate_left
              · simp only [Act.put, nrA, nrB, nrC, i64_w, i32_w]
                rfl
              refine pure_ (i := 41) (N := some 99) (v := undef) (a' := ?_) (lb 51 4398046511103) rfl rfl (by kernel_rfl) (fun _ _ _ h => h) (Or.inr ⟨by rfl, rfl⟩) ?_ ?_
              rotate_left
              · simp only [Act.put, nrA, nrB, nrC, i64_w, i32_w]
                rfl
              refine pure_ (i := 42) (N := some 100) (v := undef) (a' := ?_) (lb 51 8796093022207) rfl rfl (by kernel_rfl) (fun _ _ _ h => h) (Or.inr ⟨by rfl, rfl⟩) ?_ ?_
              rotate_left
              · simp only [Act.put, nrA, nrB, nrC, i64_w, i32_w]
                rfl
              refine pure_ (i := 43) (N := some 101) (v := undef) (a' := ?_) (lb 51 17592186044415) rfl rfl (by kernel_rfl) (fun _ _ _ h => h) (Or.inr ⟨by rfl, rfl⟩) ?_ ?_
              rotate_left
              · simp only [Act.put, nrA, nrB, nrC, i64_w, i32_w]
                rfl
              refine pure_ (i := 44) (N := some 102) (v := undef) (a' := ?_) (lb 51 35184372088831) rfl rfl (by kernel_rfl) (fun _ _ _ h => h) (Or.inr ⟨by rfl, rfl⟩) ?_ ?_
              rotate_left
              · simp only [Act.put, nrA, nrB, nrC, i64_w, i32_w]
                rfl
              refine pure_ (i := 45) (N := some 103) (v := undef) (a' := ?_) (lb 51 70368744177663) rfl rfl (by kernel_rfl) (fun _ _ _ h => h) (Or.inr ⟨by rfl, rfl⟩) ?_ ?_
              rotate_left
              · simp only [Act.put, nrA, nrB, nrC, i64_w, i32_w]
                rfl
              refine pure_ (i := 46) (N := some 104) (v := undef) (a' := ?_) (lb 51 140737488355327) rfl rfl (by kernel_rfl) (fun _ _ _ h => h) (Or.inr ⟨by rfl, rfl⟩) ?_ ?_
              rotate_left
              · simp only [Act.put, nrA, nrB, nrC, i64_w, i32_w]
                rfl
              refine pure_ (i := 47) (N := some 105) (v := undef) (a' := ?_) (lb 51 281474976710655) rfl rfl (by kernel_rfl) (fun _ _ _ h => h) (Or.inr ⟨by rfl, rfl⟩) ?_ ?_
              rotate_left
              · simp only [Act.put, nrA, nrB, nrC, i64_w, i32_w]
                rfl
              refine pure_ (i := 48) (N := some 106) (v := undef) (a' := ?_) (lb 51 562949953421311) rfl rfl (by kernel_rfl) (fun _ _ _ h => h) (Or.inr ⟨by rfl, rfl⟩) ?_ ?_
              rotate_left
              · simp only [Act.put, nrA, nrB, nrC, i64_w, i32_w]
                rfl
              refine pure_ (i := 49) (N := some 107) (v := undef) (a' := ?_) (lb 51 1125899906842623) rfl rfl (by kernel_rfl) (fun _ _ _ h => h) (Or.inr ⟨by rfl, rfl⟩) ?_ ?_
              rotate_left
              · simp only [Act.put, nrA, nrB, nrC, i64_w, i32_w]
                rfl
              refine pure_ (i := 50) (N := some 108) (v := ?_) (a' := ?_) (lb 51 2251799813685247) rfl rfl (by kernel_rfl) (fun _ _ _ h => h) (Or.inl ⟨by rfl, ?_⟩) ?_ ?_
              rotate_left
              · intro w'
                go_simp
                with_reducible rfl
              rotate_left
              · simp only [Act.put, nrA, nrB, nrC, i64_w, i32_w]
                rfl
              refine done_ (by kernel_rfl) ?_
              have HBE := Lib.hid hQ24.bel
              clear hHeld hQ11 hM11 hT11 hmv12 hb12 hQ12 hM12 hT12 hmt13 hb13 hQ13 hM13 hT13 hi14 hb14 hQ14 hM14 hT14 hmv15 hb15 hQ15 hM15 hT15 hmt16 hb16 hQ16 hM16 hT16 hi17 hb17 hQ17 hM17 hT17 hmv18 hb18 hQ18 hM18 hT18 hmt19 hb19 hQ19 hM19 hT19 hmt20 hb20 hQ20 hM20 hT20 hd21 hb21 hQ21 hM21 hT21 hmt22 hb22 hQ22 hM22 hT22 hmt23 hb23 hQ23 hM23 hT23 hb24 hQ24 hM24 hT24
              go_wp2_with (go_at_call 17; refine (works_any _).mono ?_; rintro e wz ⟨rfl, hgz⟩; have HBZ := Lib.hid (bl_trans HBE.out hgz.below); clear hgz)
              go_ret
              exact ⟨rfl, HBZ.out⟩
          · clear hd21
            refine hK.out _ _ ⟨cell_blk hQ21.a 0 rfl, cell_blk hQ21.a 1 rfl, cell_blk hQ21.a 2 rfl, cell_blk hQ21.a 3 rfl, cell_blk hQ21.a 4 rfl, cell_blk hQ21.a 5 rfl, cell_blk hQ21.b 0 rfl, cell_blk hQ21.b 1 rfl, cell_blk hQ21.b 2 rfl, cell_blk hQ21.b 3 rfl, cell_blk hQ21.b 4 rfl, cell_blk hQ21.b 5 rfl, cell_blk hQ21.v 0 rfl, cell_blk hQ21.v 1 rfl, cell_blk hQ21.v 2 rfl, cell_blk hQ21.v 3 rfl, cell_blk hQ21.u 0 rfl, cell_blk hQ21.u 1 rfl, cell_blk hQ21.u 2 rfl, cell_blk hQ21.u 3 rfl⟩ (fun hHeld => ?_)
            clear hK K
            refine norm_ (a' := ?_) ?_ ?_
            rotate_left
            · show Act.put _ (some 88) _ = _
              simp only [Act.put, nrA, nrB, nrC, i64_w, i32_w]
              rfl
            refine pure_ (i := 31) (N := some 89) (v := ?_) (a' := ?_) (lb 51 4294967295) rfl rfl (by kernel_rfl) (fun _ _ _ h => h) (Or.inl ⟨by rfl, ?_⟩) ?_ ?_
            rotate_left
            · intro w'
              go_simp
              with_reducible rfl
            rotate_left
            · simp only [Act.put, nrA, nrB, nrC, i64_w, i32_w]
              rfl
            refine pure_ (i := 32) (N := some 90) (v := ?_) (a' := ?_) (lb 51 8589934591) rfl rfl (by kernel_rfl) (fun _ _ _ h => h) (Or.inl ⟨by rfl, ?_⟩) ?_ ?_
            rotate_left
            · intro w'
              go_simp
              with_reducible rfl
            rotate_left
            · simp only [Act.put, nrA, nrB, nrC, i64_w, i32_w]
              rfl
            refine pure_ (i := 33) (N := some 91) (v := undef) (a' := ?_) (lb 51 17179869183) rfl rfl (by kernel_rfl) (fun _ _ _ h => h) (Or.inr ⟨by rfl, rfl⟩) ?_ ?_
            rotate_left
            · simp only [Act.put, nrA, nrB, nrC, i64_w, i32_w]
              rfl
            refine pure_ (i := 34) (N := some 92) (v := undef) (a' := ?_) (lb 51 34359738367) rfl rfl (by kernel_rfl) (fun _ _ _ h => h) (Or.inr ⟨by rfl, rfl⟩) ?_ ?_
            rotate_left
            · simp only [Act.put, nrA, nrB, nrC, i64_w, i32_w]
              rfl
            refine pure_ (i := 35) (N := some 93) (v := undef) (a' := ?_) (lb 51 68719476735) rfl rfl (by kernel_rfl) (fun _ _ _ h => h) (Or.inr ⟨by rfl, rfl⟩) ?_ ?_
            rotate_left
            · simp only [Act.put, nrA, nrB, nrC, i64_w, i32_w]
              rfl
            refine pure_ (i := 36) (N := some 94) (v := undef) (a' := ?_) (lb 51 137438953471) rfl rfl (by kernel_rfl) (fun _ _ _ h => h) (Or.inr ⟨by rfl, rfl⟩) ?_ ?_
            rotate_left
            · simp only [Act.put, nrA, nrB, nrC, i64_w, i32_w]
              rfl
            refine pure_ (i := 37) (N := some 95) (v := undef) (a' := ?_) (lb 51 274877906943) rfl rfl (by kernel_rfl) (fun _ _ _ h => h) (Or.inr ⟨by rfl, rfl⟩) ?_ ?_
            rotate_left
            · simp only [Act.put, nrA, nrB, nrC, i64_w, i32_w]
              rfl
            refine pure_ (i := 38) (N := some 96) (v := ?_) (a' := ?_) (lb 51 549755813887) rfl rfl (by kernel_rfl) (fun _ _ _ h => h) (Or.inl ⟨by rfl, ?_⟩) ?_ ?_
            rotate_left
            · intro w'
              go_simp
              with_reducible rfl
            rotate_left
            · simp only [Act.put, nrA, nrB, nrC, i64_w, i32_w]
              rfl
            refine pure_ (i := 39) (N := some 97) (v := ?_) (a' := ?_) (lb 51 1099511627775) rfl rfl (by kernel_rfl) (fun _ _ _ h => h) (Or.inl ⟨by rfl, ?_⟩) ?_ ?_
            rotate_left
            · intro w'
              go_simp
              with_reducible rfl
            rotate_left
            · simp only [Act.put, nrA, nrB, nrC, i64_w, i32_w]
              rfl
            refine pure_ (i := 40) (N := some 98) (v := undef) (a' := ?_) (lb 51 2199023255551) rfl rfl (by kernel_rfl) (fun _ _ _ h => h) (Or.inr ⟨by rfl, rfl⟩) ?_ ?_
            rotate_left
            · simp only [Act.put, nrA, nrB, nrC, i64_w, i32_w]
              rfl
            refine pure_ (i := 41) (N := some 99) (v := undef) (a' := ?_) (lb 51 4398046511103) rfl rfl (by kernel_rfl) (fun _ _ _ h => h) (Or.inr ⟨by rfl, rfl⟩) ?_ ?_
            rotate_left
            · simp only [Act.put, nrA, nrB, nrC, i64_w, i32_w]
              rfl
            refine pure_ (i := 42) (N := some 100) (v := undef) (a' := ?_) (lb 51 8796093022207) rfl rfl (by kernel_rfl) (fun _ _ _ h => h) (Or.inr ⟨by rfl, rfl⟩) ?_ ?_
            rotate_left
            · simp only [Act.put, nrA, nrB, nrC, i64_w, i32_w]
              rfl
            refine pure_ (i := 43) (N := some 101) (v := undef) (a' := ?_) (lb 51 17592186044415) rfl rfl (by kernel_rfl) (fun _ _ _ h => h) (Or.inr ⟨by rfl, rfl⟩) ?_ ?_
            rotate_left
            · simp only [Act.put, nrA, nrB, nrC, i64_w, i32_w]
              rfl
            refine pure_ (i := 44) (N := some 102) (v := undef) (a' := ?_) (lb 51 35184372088831) rfl rfl (by kernel_rfl) (fun _ _ _ h => h) (Or.inr ⟨by rfl, rfl⟩) ?_ ?_
            rotate_left
            · simp only [Act.put, nrA, nrB, nrC, i64_w, i32_w]
              rfl
            refine pure_ (i := 45) (N := some 103) (v := undef) (a' := ?_) (lb 51 70368744177663) rfl rfl (by kernel_rfl) (fun _ _ _ h => h) (Or.inr ⟨by rfl, rfl⟩) ?_ ?_
            rotate_left
            · simp only [Act.put, nrA, nrB, nrC, i64_w, i32_w]
              rfl
            refine pure_ (i := 46) (N := some 104) (v := undef) (a' := ?_) (lb 51 140737488355327) rfl rfl (by kernel_rfl) (fun _ _ _ h => h) (Or.inr ⟨by rfl, rfl⟩) ?_ ?_
            rotate_left
            · simp only [Act.put, nrA, nrB, nrC, i64_w, i32_w]
              rfl
            refine pure_ (i := 47) (N := some 105) (v := undef) (a' := ?_) (lb 51 281474976710655) rfl rfl (by kernel_rfl) (fun _ _ _ h => h) (Or.inr ⟨by rfl, rfl⟩) ?_ ?_
            rotate_left
            · simp only [Act.put, nrA, nrB, nrC, i64_w, i32_w]
              rfl
            refine pure_ (i := 48) (N := some 106) (v := undef) (a' := ?_) (lb 51 562949953421311) rfl rfl (by kernel_rfl) (fun _ _ _ h => h) (Or.inr ⟨by rfl, rfl⟩) ?_ ?_
            rotate_left
            · simp only [Act.put, nrA, nrB, nrC, i64_w, i32_w]
              rfl
            refine pure_ (i := 49) (N := some 107) (v := undef) (a' := ?_) (lb 51 1125899906842623) rfl rfl (by kernel_rfl) (fun _ _ _ h => h) (Or.inr ⟨by rfl, rfl⟩) ?_ ?_
            rotate_left
            · simp only [Act.put, nrA, nrB, nrC, i64_w, i32_w]
              rfl
            refine pure_ (i := 50) (N := some 108) (v := ?_) (a' := ?_) (lb 51 2251799813685247) rfl rfl (by kernel_rfl) (fun _ _ _ h => h) (Or.inl ⟨by rfl, ?_⟩) ?_ ?_
            rotate_left
            · intro w'
              go_simp
              with_reducible rfl
            rotate_left
            · simp only [Act.put, nrA, nrB, nrC, i64_w, i32_w]
              rfl
            refine done_ (by kernel_rfl) ?_
            have HBE := Lib.hid hQ21.bel
            clear hHeld hQ11 hM11 hT11 hmv12 hb12 hQ12 hM12 hT12 hmt13 hb13 hQ13 hM13 hT13 hi14 hb14 hQ14 hM14 hT14 hmv15 hb15 hQ15 hM15 hT15 hmt16 hb16 hQ16 hM16 hT16 hi17 hb17 hQ17 hM17 hT17 hmv18 hb18 hQ18 hM18 hT18 hmt19 hb19 hQ19 hM19 hT19 hmt20 hb20 hQ20 hM20 hT20 hb21 hQ21 hM21 hT21
            go_wp2_with (go_at_call 17; refine (works_any _).mono ?_; rintro e wz ⟨rfl, hgz⟩; have HBZ := Lib.hid (bl_trans HBE.out hgz.below); clear hgz)
            go_ret
            exact ⟨rfl, HBZ.out⟩
    · have h6b : (kdb == 6) = false := by simpa using h6
      have h6c : (kdb != 6) = true := by simpa using h6
      clear h6
      refine start_ (n := 51) (S := fun w' => w'.cell? ⟨w.heap.size, 0, none⟩ = some (.int .i64 kda) ∧ w'.cell? ⟨w.heap.size, 1, none⟩ = some (.string nma) ∧ w'.cell? ⟨w.heap.size, 2, none⟩ = some (.string txa) ∧ w'.cell? ⟨w.heap.size, 3, none⟩ = some (.slice aka nka cka) ∧ w'.cell? ⟨w.heap.size, 4, none⟩ = some (.slice a1a n1a c1a) ∧ w'.cell? ⟨w.heap.size, 5, none⟩ = some (.slice a2a n2a c2a) ∧ w'.cell? ⟨w.heap.size + 1, 0, none⟩ = some (.int .i64 kdb) ∧ w'.cell? ⟨w.heap.size + 1, 1, none⟩ = some (.string nmb) ∧ w'.cell? ⟨w.heap.size + 1, 2, none⟩ = some (.string txb) ∧ w'.cell? ⟨w.heap.size + 1, 3, none⟩ = some (.slice akb nkb ckb) ∧ w'.cell? ⟨w.heap.size + 1, 4, none⟩ = some (.slice a1b n1b c1b) ∧ w'.cell? ⟨w.heap.size + 1, 5, none⟩ = some (.slice a2b n2b c2b) ∧ w'.cell? ⟨w.heap.size + 1 + 1, 0, none⟩ = some (.int .i64 kdv) ∧ w'.cell? ⟨w.heap.size + 1 + 1, 1, none⟩ = some (.string txv) ∧ w'.cell? ⟨w.heap.size + 1 + 1, 2, none⟩ = some (.slice akv nkv ckv) ∧ w'.cell? ⟨w.heap.size + 1 + 1, 3, none⟩ = some (.slice a1v n1v c1v) ∧ w'.cell? ⟨w.heap.size + 1 + 1 + 1, 0, none⟩ = some (.int .i64 kdu) ∧ w'.cell? ⟨w.heap.size + 1 + 1 + 1, 1, none⟩ = some (.string txu) ∧ w'.cell? ⟨w.heap.size + 1 + 1 + 1, 2, none⟩ = some (.slice aku nku cku) ∧ w'.cell? ⟨w.heap.size + 1 + 1 + 1, 3, none⟩ = some (.slice a1u n1u c1u)) (ds := []) (lb 51 0) (by kernel_rfl) rfl rfl ⟨cell_blk HQ11.out.dr.a 0 rfl, cell_blk HQ11.out.dr.a 1 rfl, cell_blk HQ11.out.dr.a 2 rfl, cell_blk HQ11.out.dr.a 3 rfl, cell_blk HQ11.out.dr.a 4 rfl, cell_blk HQ11.out.dr.a 5 rfl, cell_blk HQ11.out.dr.b 0 rfl, cell_blk HQ11.out.dr.b 1 rfl, cell_blk HQ11.out.dr.b 2 rfl, cell_blk HQ11.out.dr.b 3 rfl, cell_blk HQ11.out.dr.b 4 rfl, cell_blk HQ11.out.dr.b 5 rfl, cell_blk HQ11.out.dr.v 0 rfl, cell_blk HQ11.out.dr.v 1 rfl, cell_blk HQ11.out.dr.v 2 rfl, cell_blk HQ11.out.dr.v 3 rfl, cell_blk HQ11.out.dr.u 0 rfl, cell_blk HQ11.out.dr.u 1 rfl, cell_blk HQ11.out.dr.u 2 rfl, cell_blk HQ11.out.dr.u 3 rfl⟩ (fun hHeld => ?_)
      refine pure_ (i := 0) (N := some 58) (v := ?_) (a' := ?_) (lb 51 1) rfl rfl (by kernel_rfl) (fun _ _ _ h => h) (Or.inl ⟨by rfl, ?_⟩) ?_ ?_
      rotate_left
      · intro w'
        go_simp
        with_reducible rfl
      rotate_left
      · simp only [Act.put, nrA, nrB, nrC, i64_w, i32_w]
        rfl
      refine pure_ (i := 1) (N := some 59) (v := ?_) (a' := ?_) (lb 51 3) rfl rfl (by kernel_rfl) (fun _ _ _ h => h) (Or.inl ⟨by rfl, ?_⟩) ?_ ?_
      rotate_left
      · intro w'
        go_simp
        with_reducible rfl
      rotate_left
      · simp only [Act.put, nrA, nrB, nrC, i64_w, i32_w]
        rfl
      refine pure_ (i := 2) (N := some 60) (v := ?_) (a' := ?_) (lb 51 7) rfl rfl (by kernel_rfl) (fun _ _ _ h => h) (Or.inl ⟨by rfl, ?_⟩) ?_ ?_
      rotate_left
      · intro w'
        go_simp
        with_reducible rfl
      rotate_left
      · simp only [Act.put, nrA, nrB, nrC, i64_w, i32_w]
        rfl
      refine pure_ (i := 3) (N := some 61) (v := ?_) (a' := ?_) (lb 51 15) rfl rfl (by kernel_rfl) (fun _ _ _ h => h) (Or.inl ⟨by rfl, ?_⟩) ?_ ?_
      rotate_left
      · intro w'
        go_simp
        with_reducible rfl
      rotate_left
      · simp only [Act.put, nrA, nrB, nrC, i64_w, i32_w]
        rfl
      refine take_ (i := 4) (N := some 62) (v := ?_) (a' := ?_) (lb 51 31) rfl rfl (by kernel_rfl) (fun _ _ _ h => h) (Or.inl ⟨by rfl, ?_⟩) hHeld ?_ ?_
      rotate_left
      · rintro w' ⟨s0, s1, s2, s3, s4, s5, s6, s7, s8, s9, s10, s11, s12, s13, s14, s15, s16, s17, s18, s19⟩
        go_simp
        with_reducible rfl
      rotate_left
      · simp only [Act.put, nrA, nrB, nrC, i64_w, i32_w]
        rfl
      refine pure_ (i := 5) (N := some 63) (v := ?_) (a' := ?_) (lb 51 63) rfl rfl (by kernel_rfl) (fun _ _ _ h => h) (Or.inl ⟨by rfl, ?_⟩) ?_ ?_
      rotate_left
      · intro w'
        go_simp
        with_reducible rfl
      rotate_left
      · simp only [Act.put, nrA, nrB, nrC, i64_w, i32_w]
        rfl
      refine pure_ (i := 6) (N := some 64) (v := ?_) (a' := ?_) (lb 51 127) rfl rfl (by kernel_rfl) (fun _ _ _ h => h) (Or.inl ⟨by rfl, ?_⟩) ?_ ?_
      rotate_left
      · intro w'
        go_simp
        with_reducible rfl
      rotate_left
      · simp only [Act.put, nrA, nrB, nrC, i64_w, i32_w]
        rfl
      refine pure_ (i := 7) (N := some 65) (v := ?_) (a' := ?_) (lb 51 255) rfl rfl (by kernel_rfl) (fun _ _ _ h => h) (Or.inl ⟨by rfl, ?_⟩) ?_ ?_
      rotate_left
      · intro w'
        go_simp
        with_reducible rfl
      rotate_left
      · simp only [Act.put, nrA, nrB, nrC, i64_w, i32_w]
        rfl
      refine pure_ (i := 8) (N := some 66) (v := undef) (a' := ?_) (lb 51 511) rfl rfl (by kernel_rfl) (fun _ _ _ h => h) (Or.inr ⟨by rfl, rfl⟩) ?_ ?_
      rotate_left
      · simp only [Act.put, nrA, nrB, nrC, i64_w, i32_w]
        rfl
      refine pure_ (i := 9) (N := some 67) (v := undef) (a' := ?_) (lb 51 1023) rfl rfl (by kernel_rfl) (fun _ _ _ h => h) (Or.inr ⟨by rfl, rfl⟩) ?_ ?_
      rotate_left
      · simp only [Act.put, nrA, nrB, nrC, i64_w, i32_w]
        rfl
      refine pure_ (i := 10) (N := some 68) (v := undef) (a' := ?_) (lb 51 2047) rfl rfl (by kernel_rfl) (fun _ _ _ h => h) (Or.inr ⟨by rfl, rfl⟩) ?_ ?_
      rotate_left
      · simp only [Act.put, nrA, nrB, nrC, i64_w, i32_w]
        rfl
      refine pure_ (i := 11) (N := some 69) (v := undef) (a' := ?_) (lb 51 4095) rfl rfl (by kernel_rfl) (fun _ _ _ h => h) (Or.inr ⟨by rfl, rfl⟩) ?_ ?_
      rotate_left
      · simp only [Act.put, nrA, nrB, nrC, i64_w, i32_w]
        rfl
      refine pure_ (i := 12) (N := some 70) (v := undef) (a' := ?_) (lb 51 8191) rfl rfl (by kernel_rfl) (fun _ _ _ h => h) (Or.inr ⟨by rfl, rfl⟩) ?_ ?_
      rotate_left
      · simp only [Act.put, nrA, nrB, nrC, i64_w, i32_w]
        rfl
      refine pure_ (i := 13) (N := some 71) (v := undef) (a' := ?_) (lb 51 16383) rfl rfl (by kernel_rfl) (fun _ _ _ h => h) (Or.inr ⟨by rfl, rfl⟩) ?_ ?_
      rotate_left
      · simp only [Act.put, nrA, nrB, nrC, i64_w, i32_w]
        rfl
      refine pure_ (i := 14) (N := some 72) (v := ?_) (a' := ?_) (lb 51 32767) rfl rfl (by kernel_rfl) (fun _ _ _ h => h) (Or.inl ⟨by rfl, ?_⟩) ?_ ?_
      rotate_left
      · intro w'
        go_simp
        with_reducible rfl
      rotate_left
      · simp only [Act.put, nrA, nrB, nrC, i64_w, i32_w]
        rfl
      refine pure_ (i := 15) (N := some 73) (v := ?_) (a' := ?_) (lb 51 65535) rfl rfl (by kernel_rfl) (fun _ _ _ h => h) (Or.inl ⟨by rfl, ?_⟩) ?_ ?_
      rotate_left
      · intro w'
        go_simp
        with_reducible rfl
      rotate_left
      · simp only [Act.put, nrA, nrB, nrC, i64_w, i32_w]
        rfl
      refine pure_ (i := 16) (N := some 74) (v := undef) (a' := ?_) (lb 51 131071) rfl rfl (by kernel_rfl) (fun _ _ _ h => h) (Or.inr ⟨by rfl, rfl⟩) ?_ ?_
      rotate_left
      · simp only [Act.put, nrA, nrB, nrC, i64_w, i32_w]
        rfl
      refine pure_ (i := 17) (N := some 75) (v := undef) (a' := ?_) (lb 51 262143) rfl rfl (by kernel_rfl) (fun _ _ _ h => h) (Or.inr ⟨by rfl, rfl⟩) ?_ ?_
      rotate_left
      · simp only [Act.put, nrA, nrB, nrC, i64_w, i32_w]
        rfl
      refine pure_ (i := 18) (N := some 76) (v := undef) (a' := ?_) (lb 51 524287) rfl rfl (by kernel_rfl) (fun _ _ _ h => h) (Or.inr ⟨by rfl, rfl⟩) ?_ ?_
      rotate_left
      · simp only [Act.put, nrA, nrB, nrC, i64_w, i32_w]
        rfl
      refine pure_ (i := 19) (N := some 77) (v := undef) (a' := ?_) (lb 51 1048575) rfl rfl (by kernel_rfl) (fun _ _ _ h => h) (Or.inr ⟨by rfl, rfl⟩) ?_ ?_
      rotate_left
      · simp only [Act.put, nrA, nrB, nrC, i64_w, i32_w]
        rfl
      refine pure_ (i := 20) (N := some 78) (v := undef) (a' := ?_) (lb 51 2097151) rfl rfl (by kernel_rfl) (fun _ _ _ h => h) (Or.inr ⟨by rfl, rfl⟩) ?_ ?_
      rotate_left
      · simp only [Act.put, nrA, nrB, nrC, i64_w, i32_w]
        rfl
      refine pure_ (i := 21) (N := some 79) (v := undef) (a' := ?_) (lb 51 4194303) rfl rfl (by kernel_rfl) (fun _ _ _ h => h) (Or.inr ⟨by rfl, rfl⟩) ?_ ?_
      rotate_left
      · simp only [Act.put, nrA, nrB, nrC, i64_w, i32_w]
        rfl
      refine pure_ (i := 22) (N := some 80) (v := ?_) (a' := ?_) (lb 51 8388607) rfl rfl (by kernel_rfl) (fun _ _ _ h => h) (Or.inl ⟨by rfl, ?_⟩) ?_ ?_
      rotate_left
      · intro w'
        go_simp
        with_reducible rfl
      rotate_left
      · simp only [Act.put, nrA, nrB, nrC, i64_w, i32_w]
        rfl
      refine pure_ (i := 23) (N := some 81) (v := ?_) (a' := ?_) (lb 51 16777215) rfl rfl (by kernel_rfl) (fun _ _ _ h => h) (Or.inl ⟨by rfl, ?_⟩) ?_ ?_
      rotate_left
      · intro w'
        go_simp
        with_reducible rfl
      rotate_left
      · simp only [Act.put, nrA, nrB, nrC, i64_w, i32_w]
        rfl
      refine pure_ (i := 24) (N := some 82) (v := undef) (a' := ?_) (lb 51 33554431) rfl rfl (by kernel_rfl) (fun _ _ _ h => h) (Or.inr ⟨by rfl, rfl⟩) ?_ ?_
      rotate_left
      · simp only [Act.put, nrA, nrB, nrC, i64_w, i32_w]
        rfl
      refine pure_ (i := 25) (N := some 83) (v := undef) (a' := ?_) (lb 51 67108863) rfl rfl (by kernel_rfl) (fun _ _ _ h => h) (Or.inr ⟨by rfl, rfl⟩) ?_ ?_
      rotate_left
      · simp only [Act.put, nrA, nrB, nrC, i64_w, i32_w]
        rfl
      refine pure_ (i := 26) (N := some 84) (v := undef) (a' := ?_) (lb 51 134217727) rfl rfl (by kernel_rfl) (fun _ _ _ h => h) (Or.inr ⟨by rfl, rfl⟩) ?_ ?_
      rotate_left
      · simp only [Act.put, nrA, nrB, nrC, i64_w, i32_w]
        rfl
      refine pure_ (i := 27) (N := some 85) (v := undef) (a' := ?_) (lb 51 268435455) rfl rfl (by kernel_rfl) (fun _ _ _ h => h) (Or.inr ⟨by rfl, rfl⟩) ?_ ?_
      rotate_left
      · simp only [Act.put, nrA, nrB, nrC, i64_w, i32_w]
        rfl
      refine pure_ (i := 28) (N := some 86) (v := undef) (a' := ?_) (lb 51 536870911) rfl rfl (by kernel_rfl) (fun _ _ _ h => h) (Or.inr ⟨by rfl, rfl⟩) ?_ ?_
      rotate_left
      · simp only [Act.put, nrA, nrB, nrC, i64_w, i32_w]
        rfl
      refine pure_ (i := 29) (N := some 87) (v := undef) (a' := ?_) (lb 51 1073741823) rfl rfl (by kernel_rfl) (fun _ _ _ h => h) (Or.inr ⟨by rfl, rfl⟩) ?_ ?_
      rotate_left
      · simp only [Act.put, nrA, nrB, nrC, i64_w, i32_w]
        rfl
      refine pure_ (i := 30) (N := some 88) (v := undef) (a' := ?_) (lb 51 2147483647) rfl rfl (by kernel_rfl) (fun _ _ _ h => h) (Or.inr ⟨by rfl, rfl⟩) ?_ ?_
      rotate_left
      · simp only [Act.put, nrA, nrB, nrC, i64_w, i32_w]
        rfl
      refine pure_ (i := 31) (N := some 89) (v := ?_) (a' := ?_) (lb 51 4294967295) rfl rfl (by kernel_rfl) (fun _ _ _ h => h) (Or.inl ⟨by rfl, ?_⟩) ?_ ?_
      rotate_left
      · intro w'
        go_simp
        with_reducible rfl
      rotate_left
      · simp only [Act.put, nrA, nrB, nrC, i64_w, i32_w]
        rfl
      refine pure_ (i := 32) (N := some 90) (v := ?_) (a' := ?_) (lb 51 8589934591) rfl rfl (by kernel_rfl) (fun _ _ _ h => h) (Or.inl ⟨by rfl, ?_⟩) ?_ ?_
      rotate_left
      · intro w'
        go_simp
        with_reducible rfl
      rotate_left
      · simp only [Act.put, nrA, nrB, nrC, i64_w, i32_w]
        rfl
      refine pure_ (i := 33) (N := some 91) (v := undef) (a' := ?_) (lb 51 17179869183) rfl rfl (by kernel_rfl) (fun _ _ _ h => h) (Or.inr ⟨by rfl, rfl⟩) ?_ ?_
      rotate_left
      · simp only [Act.put, nrA, nrB, nrC, i64_w, i32_w]
        rfl
      refine pure_ (i := 34) (N := some 92) (v := undef) (a' := ?_) (lb 51 34359738367) rfl rfl (by kernel_rfl) (fun _ _ _ h => h) (Or.inr ⟨by rfl, rfl⟩) ?_ ?_
      rotate_left
      · simp only [Act.put, nrA, nrB, nrC, i64_w, i32_w]
        rfl
      refine pure_ (i := 35) (N := some 93) (v := undef) (a' := ?_) (lb 51 68719476735) rfl rfl (by kernel_rfl) (fun _ _ _ h => h) (Or.inr ⟨by rfl, rfl⟩) ?_ ?_
      rotate_left
      · simp only [Act.put, nrA, nrB, nrC, i64_w, i32_w]
        rfl
      refine pure_ (i := 36) (N := some 94) (v := undef) (a' := ?_) (lb 51 137438953471) rfl rfl (by kernel_rfl) (fun _ _ _ h => h) (Or.inr ⟨by rfl, rfl⟩) ?_ ?_
      rotate_left
      · simp only [Act.put, nrA, nrB, nrC, i64_w, i32_w]
        rfl
      refine pure_ (i := 37) (N := some 95) (v := undef) (a' := ?_) (lb 51 274877906943) rfl rfl (by kernel_rfl) (fun _ _ _ h => h) (Or.inr ⟨by rfl, rfl⟩) ?_ ?_
      rotate_left
      · simp only [Act.put, nrA, nrB, nrC, i64_w, i32_w]
        rfl
      refine pure_ (i := 38) (N := some 96) (v := ?_) (a' := ?_) (lb 51 549755813887) rfl rfl (by kernel_rfl) (fun _ _ _ h => h) (Or.inl ⟨by rfl, ?_⟩) ?_ ?_
      rotate_left
      · intro w'
        go_simp
        with_reducible rfl
      rotate_left
      · simp only [Act.put, nrA, nrB, nrC, i64_w, i32_w]
        rfl
      refine pure_ (i := 39) (N := some 97) (v := ?_) (a' := ?_) (lb 51 1099511627775) rfl rfl (by kernel_rfl) (fun _ _ _ h => h) (Or.inl ⟨by rfl, ?_⟩) ?_ ?_
      rotate_left
      · intro w'
        go_simp
        with_reducible rfl
      rotate_left
      · simp only [Act.put, nrA, nrB, nrC, i64_w, i32_w]
        rfl
      refine pure_ (i := 40) (N := some 98) (v := undef) (a' := ?_) (lb 51 2199023255551) rfl rfl (by kernel_rfl) (fun _ _ _ h => h) (Or.inr ⟨by rfl, rfl⟩) ?_ ?_
      rotate_left
      · simp only [Act.put, nrA, nrB, nrC, i64_w, i32_w]
        rfl
      refine pure_ (i := 41) (N := some 99) (v := undef) (a' := ?_) (lb 51 4398046511103) rfl rfl (by kernel_rfl) (fun _ _ _ h => h) (Or.inr ⟨by rfl, rfl⟩) ?_ ?_
      rotate_left
      · simp only [Act.put, nrA, nrB, nrC, i64_w, i32_w]
        rfl
      refine pure_ (i := 42) (N := some 100) (v := undef) (a' := ?_) (lb 51 8796093022207) rfl rfl (by kernel_rfl) (fun _ _ _ h => h) (Or.inr ⟨by rfl, rfl⟩) ?_ ?_
      rotate_left
      · simp only [Act.put, nrA, nrB, nrC, i64_w, i32_w]
        rfl
      refine pure_ (i := 43) (N := some 101) (v := undef) (a' := ?_) (lb 51 17592186044415) rfl rfl (by kernel_rfl) (fun _ _ _ h => h) (Or.inr ⟨by rfl, rfl⟩) ?_ ?_
      rotate_left
      · simp only [Act.put, nrA, nrB, nrC, i64_w, i32_w]
        rfl
      refine pure_ (i := 44) (N := some 102) (v := undef) (a' := ?_) (lb 51 35184372088831) rfl rfl (by kernel_rfl) (fun _ _ _ h => h) (Or.inr ⟨by rfl, rfl⟩) ?_ ?_
      rotate_left
      · simp only [Act.put, nrA, nrB, nrC, i64_w, i32_w]
        rfl
      refine pure_ (i := 45) (N := some 103) (v := undef) (a' := ?_) (lb 51 70368744177663) rfl rfl (by kernel_rfl) (fun _ _ _ h => h) (Or.inr ⟨by rfl, rfl⟩) ?_ ?_
      rotate_left
      · simp only [Act.put, nrA, nrB, nrC, i64_w, i32_w]
        rfl
      refine pure_ (i := 46) (N := some 104) (v := undef) (a' := ?_) (lb 51 140737488355327) rfl rfl (by kernel_rfl) (fun _ _ _ h => h) (Or.inr ⟨by rfl, rfl⟩) ?_ ?_
      rotate_left
      · simp only [Act.put, nrA, nrB, nrC, i64_w, i32_w]
        rfl
      refine pure_ (i := 47) (N := some 105) (v := undef) (a' := ?_) (lb 51 281474976710655) rfl rfl (by kernel_rfl) (fun _ _ _ h => h) (Or.inr ⟨by rfl, rfl⟩) ?_ ?_
      rotate_left
      · simp only [Act.put, nrA, nrB, nrC, i64_w, i32_w]
        rfl
      refine pure_ (i := 48) (N := some 106) (v := undef) (a' := ?_) (lb 51 562949953421311) rfl rfl (by kernel_rfl) (fun _ _ _ h => h) (Or.inr ⟨by rfl, rfl⟩) ?_ ?_
      rotate_left
      · simp only [Act.put, nrA, nrB, nrC, i64_w, i32_w]
        rfl
      refine pure_ (i := 49) (N := some 107) (v := undef) (a' := ?_) (lb 51 1125899906842623) rfl rfl (by kernel_rfl) (fun _ _ _ h => h) (Or.inr ⟨by rfl, rfl⟩) ?_ ?_
      rotate_left
      · simp only [Act.put, nrA, nrB, nrC, i64_w, i32_w]
        rfl
      refine pure_ (i := 50) (N := some 108) (v := ?_) (a' := ?_) (lb 51 2251799813685247) rfl rfl (by kernel_rfl) (fun _ _ _ h => h) (Or.inl ⟨by rfl, ?_⟩) ?_ ?_
      rotate_left
      · intro w'
        go_simp
        with_reducible rfl
      rotate_left
      · simp only [Act.put, nrA, nrB, nrC, i64_w, i32_w]
        rfl
      refine done_ (by kernel_rfl) ?_
      have HBE := Lib.hid HQ11.out.bel
      clear hHeld
      go_wp2_with (go_at_call 17; refine (works_any _).mono ?_; rintro e wz ⟨rfl, hgz⟩; have HBZ := Lib.hid (bl_trans HBE.out.drew hgz.below); clear hgz)
      go_ret
      exact ⟨rfl, HBZ.out⟩
end Go.Proofs.YtaglgokeejjagaaGreat
