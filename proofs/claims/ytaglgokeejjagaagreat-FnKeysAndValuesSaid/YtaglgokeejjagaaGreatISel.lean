/- 'Select' of the thin package. -/
import Derived.Test.YtaglgokeejjagaaGreatBui3
import Derived.Test.YtaglgokeejjagaaGreatSelA
import Derived.Test.YtaglgokeejjagaaGreatInTy
namespace Go.Proofs.YtaglgokeejjagaaGreat
set_option linter.unusedVariables false
set_option linter.unusedSimpArgs false
open Go.RowKit Go.Sort Go.Proofs.YtaglgokeejjagaaGreatW.PrintLast

theorem bt_len {s : ST} (h : BT s) : ∀ k, k ∈ s.kids ∨ k ∈ s.more → BT k := by
  cases h with
  | null | bool | num | str => simp [ST.kids, ST.more]
  | arr h1 h2 h3 => exact fun k hk => hk.elim (h1 k) (h3 k)
  | obj hk hd h1 h2 h3 => exact fun k hk => hk.elim (h1 k) (h3 k)
  | set h => simp [ST.kids, ST.more]; exact h
  | any h1 => simp [ST.kids, ST.more]; exact h1
/-- A result of 'plain' at a type or none. -/
def oI : Option ST → IT
  | none => .mk 0 ⟨#[]⟩ ⟨#[]⟩ [] [] []
  | some s => toI s
def oW : Option ST → Nat
  | none => 0
  | some s => WS s
def SeQ (P : Option ST → Prop) (w : World) (e : Ending) (w' : World) : Prop :=
  ∃ o, P o ∧ ∃ ak nk ck a1 n1 c1 a2 n2 c2, e = .returned (.agg #[.int .i64 (oI o).kind, .string ⟨#[]⟩, .string ⟨#[]⟩, .slice ak nk ck, .slice a1 n1 c1, .slice a2 n2 c2]) ∧ MIT (fr m0 w.heap.size w' none) (itCells (oI o).kind ⟨#[]⟩ ⟨#[]⟩ ak nk ck a1 n1 c1 a2 n2 c2) (oI o) ∧ Below w.heap.size w w'
set_option maxHeartbeats 4000000 in
set_option maxRecDepth 100000 in
theorem plain_nil (w : World) : Calls Tryz.prog 44 #[.nilIface] w (SeQ (· = none) w) := by
  go_enter Tryz.func44, Tryz.ntmps44
  go_wp2
  refine bodyPost_ret (v := .agg #[.int .i64 0, .string ⟨#[]⟩, .string ⟨#[]⟩, .slice none 0 0, .slice none 0 0, .slice none 0 0]) (by simp [results, Tryz.results44, go_sem]) rfl ⟨none, rfl, none, 0, 0, none, 0, 0, none, 0, 0, rfl, ?_, bl_alloc (Below.refl _ _) _⟩
  have h := mit_flat (fr m0 w.heap.size (w.alloc (.cells #[.int .i64 0, .string ⟨#[]⟩, .string ⟨#[]⟩, .slice none 0 0, .slice none 0 0, .slice none 0 0] 25)) none) 0
  rw [toI_eq] at h
  exact h
theorem plainO {P : Option ST → Prop} {o : Option ST} {x : Value} {m : Mem} {w : World} (hp : P o) (hw : oW o ≤ 1000000000) (h : RO m x o) (hm : MLe m w.cell?) : Calls Tryz.prog 44 #[x] w (SeQ P w) := by
  cases o with
  | none =>
    obtain rfl : x = .nilIface := h
    exact (plain_nil w).mono fun e w' ⟨o, ho, h⟩ => ⟨o, by subst ho; exact hp, h⟩
  | some s =>
    refine (plain_any s x m w hw h hm).mono fun e w' h => ⟨some s, hp, ?_⟩
    have hk : (oI (some s)).kind = s.kind := by cases s; rw [oI, toI_eq]; rfl
    rw [hk]
    exact h
/-- A contract of 'Select' of the types package. -/
def SelC (s : ST) (x : Value) (P : Option ST → Prop) : Prop := ∀ (m : Mem) (r : Value) (w : World), RT m r s → MLe m (ucell w) →
  Calls Tryz.prog 45 #[r, x] w (fun e w' => ∃ y o, P o ∧ e = .returned y ∧ RO (fr m w.heap.size w' none) y o ∧ Below w.heap.size w w')
def ValC (v x : Value) : Prop := ∀ w, Calls Tryz.prog 47 #[v] w (fun e w' => e = .returned x ∧ Below w.heap.size w w')
theorem valC_num {tx : ByteArray} : ValC (.agg #[.int .i64 3, .string tx, .slice none 0 0, .slice none 0 0]) (.iface 119 (.string tx)) := fun w => by
  refine (va_3 (ak := none) (ck := 0) (ks := []) (a1 := none) (c1 := 0) (kids := []) (tx := tx) (w := w)).mono fun e w' ⟨x, h1, h2, h3⟩ => ⟨?_, h3⟩
  rw [h1]
  cases h2 with
  | num k => rfl
  | null k | ff k | tt k | str k => exact absurd k (by simp [Vl.kind])
  | arr k _ _ _ => exact absurd k (by simp [Vl.kind])
  | obj k _ _ _ => exact absurd k (by simp [Vl.kind])
theorem valC_str {tx : ByteArray} : ValC (.agg #[.int .i64 4, .string tx, .slice none 0 0, .slice none 0 0]) (.iface 9 (.string tx)) := fun w => by
  refine (va_4 (ak := none) (ck := 0) (ks := []) (a1 := none) (c1 := 0) (kids := []) (tx := tx) (w := w)).mono fun e w' ⟨x, h1, h2, h3⟩ => ⟨?_, h3⟩
  rw [h1]
  cases h2 with
  | str k => rfl
  | null k | ff k | tt k | num k => exact absurd k (by simp [Vl.kind])
  | arr k _ _ _ => exact absurd k (by simp [Vl.kind])
  | obj k _ _ _ => exact absurd k (by simp [Vl.kind])

set_option maxHeartbeats 4000000 in
set_option maxRecDepth 100000 in
theorem isel_any {t : IT} {m : Mem} {kd vk : Int} {nm tx vt : ByteArray} {ak a1 a2 : Option Addr} {nk ck n1 c1 n2 c2 : Nat} {x : Value} {P : Option ST → Prop} {w : World} (hv : MIT m (itCells kd nm tx ak nk ck a1 n1 c1 a2 n2 c2) t) (hb : BT (toS t)) (hw : WI t ≤ 100000) (hm : MLe m w.cell?)
    (hx : ValC (.agg #[.int .i64 vk, .string vt, .slice none 0 0, .slice none 0 0]) x) (hs : SelC (nrm (toS t)) x P) (hP : ∀ o, P o → oW o ≤ 1000000000) :
    Calls Tryz.prog 21 #[.agg #[.int .i64 kd, .string nm, .string tx, .slice ak nk ck, .slice a1 n1 c1, .slice a2 n2 c2], .agg #[.int .i64 vk, .string vt, .slice none 0 0, .slice none 0 0]] w (SeQ P w) := by
  have HA := Lib.hid (fun W hW => built_any t m _ _ _ _ _ _ _ _ _ _ _ _ W hv hb hw hW)
  have HM := Lib.hid hm
  have HX := Lib.hid (fun W => show Calls Tryz.prog 47 #[.agg #[.int .i64 vk, .string vt, .slice none 0 0, .slice none 0 0]] W (fun e w' => e = .returned x ∧ Below W.heap.size W w') from hx W)
  have HS := Lib.hid (fun (m : Mem) (r : Value) (W : World) (h1 : RT m r (nrm (toS t))) (h2 : MLe m (ucell W)) => show Calls Tryz.prog 45 #[r, x] W (fun e w' => ∃ y o, P o ∧ e = .returned y ∧ RO (fr m W.heap.size w' none) y o ∧ Below W.heap.size W w') from hs m r W h1 h2)
  have HP := Lib.hid hP
  clear hv hb hw hm hx hs hP
  generalize nrm (toS t) = s at HA HS
  go_enter Tryz.func21, Tryz.ntmps21
  go_wp2_with fail
  obtain ⟨W, hW⟩ : ∃ W, W = ((w.alloc (.cells #[.int .i64 kd, .string nm, .string tx, .slice ak nk ck, .slice a1 n1 c1, .slice a2 n2 c2] 25)).alloc (.cells #[.int .i64 vk, .string vt, .slice none 0 0, .slice none 0 0] 29)).alloc (.cells #[.int .i64 0, .string ⟨#[]⟩, .string ⟨#[]⟩, .slice none 0 0, .slice none 0 0, .slice none 0 0] 25) := ⟨_, rfl⟩
  have HXT := Lib.hid (show W.heap[w.heap.size]? = some (.cells #[.int .i64 kd, .string nm, .string tx, .slice ak nk ck, .slice a1 n1 c1, .slice a2 n2 c2] 25 (0, 0)) by rw [hW]; exact al_old (al_old (al_new rfl)))
  have HXV := Lib.hid (show W.heap[w.heap.size + 1]? = some (.cells #[.int .i64 vk, .string vt, .slice none 0 0, .slice none 0 0] 29 (0, 0)) by rw [hW]; exact al_old (al_new (by simp)))
  have HXR := Lib.hid (show W.heap[w.heap.size + 1 + 1]? = some (.cells #[.int .i64 0, .string ⟨#[]⟩, .string ⟨#[]⟩, .slice none 0 0, .slice none 0 0, .slice none 0 0] 25 (0, 0)) by rw [hW]; exact al_new (by simp))
  have HB := Lib.hid (show Below w.heap.size w W by rw [hW]; exact bl_alloc (bl_alloc (bl_alloc (Below.refl _ _) _) _) _)
  have HSW := Lib.hid (show W.heap.size = w.heap.size + 3 by rw [hW]; simp)
  rw [← hW]
  clear hW
  have HM1 := Lib.hid (HM.out.trans (mle_below HB.out))
  refine start_ (n := 7) (S := fun w' => w'.cell? ⟨w.heap.size, 0, none⟩ = some (.int .i64 kd) ∧ w'.cell? ⟨w.heap.size, 1, none⟩ = some (.string nm) ∧ w'.cell? ⟨w.heap.size, 2, none⟩ = some (.string tx) ∧ w'.cell? ⟨w.heap.size, 3, none⟩ = some (.slice ak nk ck) ∧ w'.cell? ⟨w.heap.size, 4, none⟩ = some (.slice a1 n1 c1) ∧ w'.cell? ⟨w.heap.size, 5, none⟩ = some (.slice a2 n2 c2) ∧ w'.cell? ⟨w.heap.size + 1, 0, none⟩ = some (.int .i64 vk) ∧ w'.cell? ⟨w.heap.size + 1, 1, none⟩ = some (.string vt) ∧ w'.cell? ⟨w.heap.size + 1, 2, none⟩ = some (.slice none 0 0) ∧ w'.cell? ⟨w.heap.size + 1, 3, none⟩ = some (.slice none 0 0)) (ds := [6]) #[false, false, false, false, false, false, false] (by kernel_rfl) rfl rfl ⟨cell_blk HXT.out 0 rfl, cell_blk HXT.out 1 rfl, cell_blk HXT.out 2 rfl, cell_blk HXT.out 3 rfl, cell_blk HXT.out 4 rfl, cell_blk HXT.out 5 rfl, cell_blk HXV.out 0 rfl, cell_blk HXV.out 1 rfl, cell_blk HXV.out 2 rfl, cell_blk HXV.out 3 rfl⟩ (fun hHeld => ?_)
  refine take_ (i := 0) (N := some 5) (v := ?_) (a' := ?_) #[true, false, false, false, false, false, false] rfl rfl (by kernel_rfl) (fun _ _ _ h => h) (Or.inl ⟨by rfl, ?_⟩) hHeld ?_ ?_
  rotate_left
  · rintro w' ⟨s0, s1, s2, s3, s4, s5, s6, s7, s8, s9⟩
    go_simp
    with_reducible rfl
  rotate_left
  · simp only [Act.put, List.setIfInBounds_toArray, List.set_cons_zero, List.set_cons_succ, i64_w, i32_w]
    rfl
  refine take_ (i := 2) (N := some 7) (v := ?_) (a' := ?_) #[true, false, true, false, false, false, false] rfl rfl (by kernel_rfl) (fun _ _ _ h => h) (Or.inl ⟨by rfl, ?_⟩) hHeld ?_ ?_
  rotate_left
  · rintro w' ⟨s0, s1, s2, s3, s4, s5, s6, s7, s8, s9⟩
    go_simp
    with_reducible rfl
  rotate_left
  · simp only [Act.put, List.setIfInBounds_toArray, List.set_cons_zero, List.set_cons_succ, i64_w, i32_w]
    rfl
  refine one_ (i := 1) (N := some 6) #[true, true, true, false, false, false, false] rfl rfl (by kernel_rfl) (by decide) (fun K hK => ?_)
  refine goes_ Tryz.func46 (by kernel_rfl) rfl #[.agg #[.int .i64 kd, .string nm, .string tx, .slice ak nk ck, .slice a1 n1 c1, .slice a2 n2 c2]] (by rfl) rfl rfl (by simp only [List.map_toArray, List.map_cons, List.map_nil]; rfl) ?_
  with_reducible refine (HA.out _ (mle_drew HM1.out)).mono ?_
  rintro e w2 ⟨v, rfl, hrt, hbl⟩
  refine ⟨_, rfl, ?_⟩
  have HRT := Lib.hid hrt
  have HBL := Lib.hid (bl_trans HB.out.drew hbl)
  have HXT2 := Lib.hid (bl_heap hbl HXT.out)
  have HXV2 := Lib.hid (bl_heap hbl HXV.out)
  have HXR2 := Lib.hid (bl_heap hbl HXR.out)
  clear hrt hbl
  refine hK.out _ _ ⟨cell_blk HXT2.out 0 rfl, cell_blk HXT2.out 1 rfl, cell_blk HXT2.out 2 rfl, cell_blk HXT2.out 3 rfl, cell_blk HXT2.out 4 rfl, cell_blk HXT2.out 5 rfl, cell_blk HXV2.out 0 rfl, cell_blk HXV2.out 1 rfl, cell_blk HXV2.out 2 rfl, cell_blk HXV2.out 3 rfl⟩ (fun hHeld => ?_)
  clear hK K
  refine norm_ (a' := ?_) ?_ ?_
  rotate_left
  · show Act.put _ (some 6) _ = _
    simp only [Act.put, List.setIfInBounds_toArray, List.set_cons_zero, List.set_cons_succ, i64_w, i32_w]
    rfl
  refine one_ (i := 3) (N := some 8) #[true, true, true, true, false, false, false] rfl rfl (by kernel_rfl) (by decide) (fun K hK => ?_)
  refine goes_ Tryz.func47 (by kernel_rfl) rfl #[.agg #[.int .i64 vk, .string vt, .slice none 0 0, .slice none 0 0]] (by rfl) rfl rfl (by simp only [List.map_toArray, List.map_cons, List.map_nil]; rfl) ?_
  with_reducible refine (HX.out _).mono ?_
  rintro e w3 ⟨rfl, hbl⟩
  refine ⟨_, rfl, ?_⟩
  have HBL3 := Lib.hid hbl
  have HXT3 := Lib.hid (bl_heap hbl HXT2.out)
  have HXV3 := Lib.hid (bl_heap hbl HXV2.out)
  have HXR3 := Lib.hid (bl_heap hbl HXR2.out)
  clear hbl
  refine hK.out _ _ ⟨cell_blk HXT3.out 0 rfl, cell_blk HXT3.out 1 rfl, cell_blk HXT3.out 2 rfl, cell_blk HXT3.out 3 rfl, cell_blk HXT3.out 4 rfl, cell_blk HXT3.out 5 rfl, cell_blk HXV3.out 0 rfl, cell_blk HXV3.out 1 rfl, cell_blk HXV3.out 2 rfl, cell_blk HXV3.out 3 rfl⟩ (fun hHeld => ?_)
  clear hK K
  refine norm_ (a' := ?_) ?_ ?_
  rotate_left
  · show Act.put _ (some 8) _ = _
    simp only [Act.put, List.setIfInBounds_toArray, List.set_cons_zero, List.set_cons_succ, i64_w, i32_w]
    rfl
  refine one_ (i := 4) (N := some 9) #[true, true, true, true, true, false, false] rfl rfl (by kernel_rfl) (by decide) (fun K hK => ?_)
  refine goes_ Tryz.func45 (by kernel_rfl) rfl #[v, x] (by rfl) rfl rfl (by simp only [List.map_toArray, List.map_cons, List.map_nil]; rfl) ?_
  with_reducible refine (HS.out _ _ _ HRT.out ((fr_leU (m0_le _)).trans (mleU HBL3.out))).mono ?_
  rintro e w4 ⟨y, o, ho, rfl, hro, hbl⟩
  refine ⟨_, rfl, ?_⟩
  have HO := Lib.hid ho
  have HRO := Lib.hid hro
  have HBL4 := Lib.hid (bl_trans (bl_trans HBL.out HBL3.out) hbl)
  have HRL := Lib.hid (show MLe (fr (fr m0 W.drew.heap.size w2 none) w3.heap.size w4 none) w4.cell? from fr_le ((fr_le (m0_le _)).trans (mle_below (bl_trans HBL3.out hbl))))
  have HXT4 := Lib.hid (bl_heap hbl HXT3.out)
  have HXV4 := Lib.hid (bl_heap hbl HXV3.out)
  have HXR4 := Lib.hid (bl_heap hbl HXR3.out)
  clear ho hro hbl
  refine hK.out _ _ ⟨cell_blk HXT4.out 0 rfl, cell_blk HXT4.out 1 rfl, cell_blk HXT4.out 2 rfl, cell_blk HXT4.out 3 rfl, cell_blk HXT4.out 4 rfl, cell_blk HXT4.out 5 rfl, cell_blk HXV4.out 0 rfl, cell_blk HXV4.out 1 rfl, cell_blk HXV4.out 2 rfl, cell_blk HXV4.out 3 rfl⟩ (fun hHeld => ?_)
  clear hK K
  refine norm_ (a' := ?_) ?_ ?_
  rotate_left
  · show Act.put _ (some 9) _ = _
    simp only [Act.put, List.setIfInBounds_toArray, List.set_cons_zero, List.set_cons_succ, i64_w, i32_w]
    rfl
  refine one_ (i := 5) (N := some 10) #[true, true, true, true, true, true, false] rfl rfl (by kernel_rfl) (by decide) (fun K hK => ?_)
  refine goes_ Tryz.func44 (by kernel_rfl) rfl #[y] (by rfl) rfl rfl (by simp only [List.map_toArray, List.map_cons, List.map_nil]; rfl) ?_
  with_reducible refine (plainO HO.out (HP.out _ HO.out) HRO.out HRL.out).mono ?_
  rintro e w5 ⟨o5, ho5, ak5, nk5, ck5, a15, n15, c15, a25, n25, c25, rfl, hmv5, hb5⟩
  refine ⟨_, rfl, ?_⟩
  have HO5 := Lib.hid ho5
  have HMV5 := Lib.hid hmv5
  have HBL5 := Lib.hid (bl_trans HBL4.out hb5)
  have HSZ5 := Lib.hid (Nat.le_trans (lt_blk HXR4.out) hb5.size)
  have HXT5 := Lib.hid (bl_heap hb5 HXT4.out)
  have HXV5 := Lib.hid (bl_heap hb5 HXV4.out)
  have HXR5 := Lib.hid (bl_heap hb5 HXR4.out)
  clear ho5 hmv5 hb5
  refine hK.out _ _ ⟨cell_blk HXT5.out 0 rfl, cell_blk HXT5.out 1 rfl, cell_blk HXT5.out 2 rfl, cell_blk HXT5.out 3 rfl, cell_blk HXT5.out 4 rfl, cell_blk HXT5.out 5 rfl, cell_blk HXV5.out 0 rfl, cell_blk HXV5.out 1 rfl, cell_blk HXV5.out 2 rfl, cell_blk HXV5.out 3 rfl⟩ (fun hHeld => ?_)
  clear hK K
  refine norm_ (a' := ?_) ?_ ?_
  rotate_left
  · show Act.put _ (some 10) _ = _
    simp only [Act.put, List.setIfInBounds_toArray, List.set_cons_zero, List.set_cons_succ, i64_w, i32_w]
    rfl
  refine last_ (i := 6) (N := none) #[true, true, true, true, true, true, true] rfl rfl (by kernel_rfl) (by decide) (fun K hK => ?_)
  obtain ⟨r0, r1, r2, r3, r4, r5⟩ := cells6 HXR5.out
  have fr' := froz_blk HXR5.out
  have hs3 := lt_blk HXR5.out
  refine skip_ (w1 := ?_) (by rfl) rfl ?_ ?_
  rotate_left
  · go_simp
    rfl
  refine hK.out _ _ ?_
  clear hK K
  refine done_ (by kernel_rfl) ?_
  go_wp2
  refine bodyPost_ret (v := .agg #[.int .i64 (oI o5).kind, .string ⟨#[]⟩, .string ⟨#[]⟩, .slice ak5 nk5 ck5, .slice a15 n15 c15, .slice a25 n25 c25]) (by simp [results, Tryz.results21, go_sem, r0, r1, r2, r3, r4, r5, hs3, fr']) rfl ⟨_, HO5.out, _, _, _, _, _, _, _, _, _, rfl, ?_, ?_⟩
  · have s4 := lt_blk HXR4.out
    refine HMV5.out.mono (fr_deep (lo_m0 _) (by omega) (fun k e => by cases e) (fun k h1 h2 _ => ?_) (.inl rfl))
    repeat rw [Below.heap_setCell _ _ _ k (show k ≠ w.heap.size + 1 + 1 from by omega)]
  · have hle : w.heap.size ≤ w.heap.size + 1 + 1 := by omega
    exact (((((HBL5.out.setCell hle _).setCell hle _).setCell hle _).setCell hle _).setCell hle _).setCell hle _
end Go.Proofs.YtaglgokeejjagaaGreat
