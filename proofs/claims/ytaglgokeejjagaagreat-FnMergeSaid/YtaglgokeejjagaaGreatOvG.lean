/- What is known where the law FnMerge asks the merged type. -/
import Derived.Test.YtaglgokeejjagaaGreatIMg
import Derived.Test.YtaglgokeejjagaaGreatSpD
import Derived.Test.YtaglgokeejjagaaGreatOvP
import Derived.Test.YtaglgokeejjagaaGreatLawK
import Derived.Test.YtaglgokeejjagaaGreatPtb
namespace Go.Proofs.YtaglgokeejjagaaGreat
set_option linter.unusedVariables false
set_option linter.unusedSimpArgs false
open Go.RowKit Go.Sort

/-- The types in a merge of two object types without a static property in common are those of the two. -/
theorem merge_wt {sa sb r : ST} (ha : BT sa) (hb : BT sb) (ka : sa.kind = 6) (kb : sb.kind = 6) (hp : ∀ i (h : i < sa.keys.length) j (g : j < sb.keys.length), sa.keys[i] ≠ sb.keys[j])
    (hm : sa.more = [] ∨ sb.more = []) (hr : MoSt (nrm sa) (nrm sb) r) : Wt r := by
  obtain ⟨pa, ma, pb, mb, ea, eb, L, more, rfl, hL, hM⟩ := hr
  obtain ⟨na, sta, mka, ema, lma⟩ := pa_keys ha ka ea
  obtain ⟨nb, stb, mkb, emb, lmb⟩ := pa_keys hb kb eb
  have wa := (nrm_nt ha).wt
  have wb := (nrm_nt hb).wt
  rw [ea] at wa
  rw [eb] at wb
  obtain ⟨_, _, wa2, wa3⟩ := wa.out
  obtain ⟨_, _, wb2, wb3⟩ := wb.out
  simp only [ST.kids, ST.more] at wa2 wa3 wb2 wb3
  obtain ⟨L1, L2, L3, L4, _⟩ := hL
  have dis : ∀ p ∈ pa, ∀ q ∈ pb, p.1 ≠ q.1 := fun p h1 q h2 e => by
    obtain ⟨i, hi, ei⟩ := List.getElem_of_mem (mka p h1)
    obtain ⟨j, hj, ej⟩ := List.getElem_of_mem (mkb q h2)
    exact hp i hi j hj (by rw [ei, ej, e])
  have sub1 : ∀ p ∈ pa, p ∈ L := fun p h => L2 p h fun q hq e => dis p h q hq e.symm
  have sub2 : ∀ q ∈ pb, q ∈ L := fun q h => L3 q h fun p hq e => dis p hq q h e
  have back : ∀ p ∈ L, p ∈ pa ∨ p ∈ pb := fun p h => by
    obtain ⟨j, hj, e⟩ := List.getElem_of_mem h
    rcases L4 p h with ⟨q, hq, e2⟩ | ⟨q, hq, e2⟩
    · have := nodup_at L1 hj (sub1 q hq) (by rw [e2, e])
      rw [e] at this; subst this; exact .inl hq
    · have := nodup_at L1 hj (sub2 q hq) (by rw [e2, e])
      rw [e] at this; subst this; exact .inr hq
  have hmm : more = mb ∨ more = ma := by
    rcases hm with h | h
    · have : ma = [] := by rw [ema, h]; rfl
      exact .inl (hM.1 this)
    · have : mb = [] := by rw [emb, h]; rfl
      exact .inr (hM.2.1 this)
  refine .mk (by decide) (by simp) (fun k hk => ?_) ?_
  · obtain ⟨p, hp, rfl⟩ := List.mem_map.1 hk
    rcases back p hp with h | h
    · exact wa2 _ (List.mem_map.2 ⟨p, h, rfl⟩)
    · exact wb2 _ (List.mem_map.2 ⟨p, h, rfl⟩)
  · rcases hmm with h | h <;> rw [h] <;> assumption

/-- What is known of the two types, the two values and the merged type where the law asks. -/
structure MgH (v u : Vl) (om : Option ST) : Prop where
  pv : PV v
  pu : PV u
  kv : v.kind = 6
  ku : u.kind = 6
  wv : WV v ≤ 5000
  wu : WV u ≤ 5000
  ev : valOf v = v
  eu : valOf u = u
  bd : BdI (oI om)
  res : ∀ out, OvR v u out → ∃ r, om = some r ∧ WS r ≤ 400000 ∧ Wt r ∧ InP r (obV out) ∧ PV (obV out)
theorem mgH_of {ta tb : IT} {v u : Vl} {om : Option ST} (hpt : (WI ta ≤ 5000 ∧ PT (toS ta)) ∧ WI tb ≤ 5000 ∧ PT (toS tb)) (hv : PV (valOf v)) (hu : PV (valOf u)) (ka : (nrm (toS ta)).kind = 6) (kb : (toS tb).kind = 6)
    (hom : ∃ r, om = some r ∧ ((nrm (toS tb)).kind = 6 → MoSt (nrm (toS ta)) (nrm (toS tb)) r) ∧ WS r ≤ 400000) (iv : InP (kindOf ta) (valOf v)) (iu : InP (kindOf tb) (valOf u))
    (hd : ∀ i (h : i < (valOf u).keys.length), (stat (kindOf ta).keys (valOf u).keys[i]).isSome = true → (stat (kindOf tb).keys (valOf u).keys[i]).isSome = true)
    (hp : ∀ i (h : i < (kindOf ta).keys.length) j (g : j < (kindOf tb).keys.length), (kindOf ta).keys[i] ≠ (kindOf tb).keys[j]) (hm : (toS ta).more.length = 0 ∨ (toS tb).more.length = 0) : MgH v u om := by
  obtain ⟨⟨wa, pa⟩, wb, pb⟩ := hpt
  obtain ⟨ev, wv, pv⟩ := val_proper hv
  obtain ⟨eu, wu, pu⟩ := val_proper hu
  rw [ev] at iv
  rw [eu] at iu
  rw [kind_of wa] at iv
  rw [kind_of wb] at iu
  have hd2 : ∀ i (h : i < u.keys.length), (stat (toS ta).keys u.keys[i]).isSome = true → (stat (toS tb).keys u.keys[i]).isSome = true := by
    rw [← kind_of wa, ← kind_of wb]
    have := hd
    simp only [eu] at this
    exact this
  have hp2 : ∀ i (h : i < (toS ta).keys.length) j (g : j < (toS tb).keys.length), (toS ta).keys[i] ≠ (toS tb).keys[j] := by
    rw [← kind_of wa, ← kind_of wb]; exact hp
  rw [nrm_kind] at ka
  have hmm : (toS ta).more = [] ∨ (toS tb).more = [] := hm.imp List.length_eq_zero_iff.1 List.length_eq_zero_iff.1
  obtain ⟨r, rfl, hr, hw⟩ := hom
  have hst := hr (by rw [nrm_kind]; exact kb)
  refine ⟨pv, pu, ((inP_obj ka).1 iv).1, ((inP_obj kb).1 iu).1, wv, wu, ev, eu, bdI_toI r (by omega), fun out ho => ⟨r, rfl, hw, merge_wt (pt_bt pa) (pt_bt pb) ka kb hp2 hmm hst, ?_, ov_pv ho pv pu⟩⟩
  exact merge_in (pt_bt pa) (pt_bt pb) ka kb pv pu iv iu hd2 hp2 hmm hst ho
theorem mg_in {v u : Vl} {om : Option ST} (h : MgH v u om) {out : List KV} (ho : OvR v u out) {W : World} {kv' : Int} {tx' : ByteArray} {akv' : Option Addr} {nkv' ckv' : Nat} {a1v' : Option Addr} {n1v' c1v' : Nat} {kd' : Int} {ak' : Option Addr} {nk' ck' : Nat} {a1' : Option Addr} {n1' c1' : Nat} {a2' : Option Addr} {n2' c2' : Nat} (h3 : MV W.cell? (vlCells kv' tx' akv' nkv' ckv' a1v' n1v' c1v') (obV out)) (h4 : MST W.cell? (stCells kd' ak' nk' ck' a1' n1' c1' a2' n2' c2') (givenOf (oI om))) :
    Calls Tryz.prog 15 #[.agg #[.int .i64 kv', .string tx', .slice akv' nkv' ckv', .slice a1v' n1v' c1v'], .agg #[.int .i64 kd', .slice ak' nk' ck', .slice a1' n1' c1', .slice a2' n2' c2']] W (BoP true W) := by
  obtain ⟨r, rfl, hw, hwt, hi, hpv⟩ := h.res out ho
  rw [oI, given_toI (by omega)] at h4
  exact (in_any r (obV out) W.cell? _ _ _ _ _ _ _ _ _ _ _ _ _ _ _ _ _ _ W hwt (wv_of _ hpv) h3 h4 (MLe.refl _)).mono fun e w' h => ⟨by rw [h.1, inT_true hi], h.2⟩
end Go.Proofs.YtaglgokeejjagaaGreat
