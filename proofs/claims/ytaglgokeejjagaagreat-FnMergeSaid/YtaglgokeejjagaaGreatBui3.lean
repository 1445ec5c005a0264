/- 'built': types of the package out of plain data. -/
import Derived.Test.YtaglgokeejjagaaGreatBuiA
import Derived.Test.YtaglgokeejjagaaGreatWorks
import Derived.Test.YtaglgokeejjagaaGreatWLast
namespace Go.Proofs.YtaglgokeejjagaaGreat
set_option linter.unusedVariables false
set_option linter.unusedSimpArgs false
open Go.RowKit Go.Sort Go.Proofs.YtaglgokeejjagaaGreatW.PrintLast

theorem fr_up {B B1 : Nat} {w w' : World} (hB : B ≤ B1) (h : Below w.heap.size w w') : MLe (fr m0 B1 w none) (fr m0 B w' none) :=
  fr_deep (lo_m0 _) hB (fun k e => by cases e) (fun k _ h2 _ => h.block k h2) (.inl rfl)
theorem fr_cell {B b i : Nat} {w : World} {c : Array Value} {T : TypeId} {v : Value} (hB : B ≤ b) (h : w.heap[b]? = some (.cells c T (0, 0))) (hi : c[i]? = some v) : fr m0 B w none ⟨b, i, none⟩ = some v := by
  unfold fr
  rw [if_pos hB, if_neg (by simp)]
  exact ucell_blk h i hi
theorem fr_two {B B1 : Nat} {w2 w3 : World} (h1 : B ≤ B1) (h2 : B ≤ w2.heap.size) (hb : Below w2.heap.size w2 w3) : MLe (fr (fr m0 B1 w2 none) w2.heap.size w3 none) (fr m0 B w3 none) := fun a x h => by
  unfold fr at h
  split at h
  · rw [if_neg (by simp)] at h
    unfold fr
    rw [if_pos (by omega), if_neg (by simp)]
    exact h
  · exact fr_up h1 hb _ _ h
theorem toS_mk (t : IT) : toS t = .mk t.kind t.keys (t.kids.map toS) (t.more.map toS) := by cases t; rw [toS]; rfl
theorem bt_1 {k : Int} {ks : List Ky} {kids more : List ST} (h : BT (.mk k ks kids more)) (h1 : 1 ≤ k) (h4 : k ≤ 4) : ks = [] ∧ kids = [] ∧ more = [] := by
  generalize hs : ST.mk k ks kids more = s at h
  cases h <;> cases hs <;> first | exact ⟨rfl, rfl, rfl⟩ | (exfalso; omega)
theorem bt_5 {ks : List Ky} {kids more : List ST} (h : BT (.mk 5 ks kids more)) : ks = [] ∧ (∀ k ∈ kids, BT k) ∧ more.length ≤ 1 ∧ ∀ k ∈ more, BT k := by
  cases h with | arr a b c => exact ⟨rfl, a, b, c⟩
theorem bt_6 {ks : List Ky} {kids more : List ST} (h : BT (.mk 6 ks kids more)) : ∃ aks : List AK, ks = aks.map kyOf ∧ aks.length = kids.length ∧ aks.Nodup ∧ (∀ k ∈ kids, BT k) ∧ (more.length = 0 ∨ more.length = 2) ∧ ∀ k ∈ more, BT k := by
  generalize hs : ST.mk 6 ks kids more = s at h
  cases h with
  | obj a b c d e => injection hs with _ h2 h3 h4; subst h2 h3 h4; exact ⟨_, rfl, a, b, c, d, e⟩
  | _ => injection hs with h1; exact absurd h1 (by decide)
theorem bt_7 {ks : List Ky} {kids more : List ST} (h : BT (.mk 7 ks kids more)) : ks = [] ∧ (∃ t, kids = [t] ∧ BT t) ∧ more = [] := by
  cases h with | set a => exact ⟨rfl, ⟨_, rfl, a⟩, rfl⟩
theorem bt_8 {ks : List Ky} {kids more : List ST} (h : BT (.mk 8 ks kids more)) : ks = [] ∧ (∀ k ∈ kids, BT k) ∧ more = [] := by
  cases h with | any a => exact ⟨rfl, a, rfl⟩
theorem bt_kind {s : ST} (h : BT s) : 1 ≤ s.kind ∧ s.kind ≤ 8 := by cases h <;> simp [ST.kind]

set_option maxHeartbeats 2000000 in
set_option maxRecDepth 100000 in
theorem bu_flat1 {nm tx : ByteArray} {ak a1 a2 : Option Addr} {nk ck n1 c1 n2 c2 : Nat} (w : World) : Calls Tryz.prog 46 #[.agg #[.int .i64 1, .string nm, .string tx, .slice ak nk ck, .slice a1 n1 c1, .slice a2 n2 c2]] w (BuP (.mk 1 [] [] []) w) := by
  go_enter Tryz.func46, Tryz.ntmps46
  go_wp2_with (first | (go_at_call 73; refine (new73 _).mono ?_; rintro e w2 ⟨rfl, g1⟩) | go_in)
  go_ret
  exact ⟨_, rfl, .null, (((Gr.refl _).alloc _).trans g1).below⟩
set_option maxHeartbeats 2000000 in
set_option maxRecDepth 100000 in
theorem bu_flat2 {nm tx : ByteArray} {ak a1 a2 : Option Addr} {nk ck n1 c1 n2 c2 : Nat} (w : World) : Calls Tryz.prog 46 #[.agg #[.int .i64 2, .string nm, .string tx, .slice ak nk ck, .slice a1 n1 c1, .slice a2 n2 c2]] w (BuP (.mk 2 [] [] []) w) := by
  go_enter Tryz.func46, Tryz.ntmps46
  go_wp2_with (first | (go_at_call 74; refine (new74 _).mono ?_; rintro e w2 ⟨rfl, g1⟩) | go_in)
  go_ret
  exact ⟨_, rfl, .bool, (((Gr.refl _).alloc _).trans g1).below⟩
set_option maxHeartbeats 2000000 in
set_option maxRecDepth 100000 in
theorem bu_flat3 {nm tx : ByteArray} {ak a1 a2 : Option Addr} {nk ck n1 c1 n2 c2 : Nat} (w : World) : Calls Tryz.prog 46 #[.agg #[.int .i64 3, .string nm, .string tx, .slice ak nk ck, .slice a1 n1 c1, .slice a2 n2 c2]] w (BuP (.mk 3 [] [] []) w) := by
  go_enter Tryz.func46, Tryz.ntmps46
  go_wp2_with (first | (go_at_call 75; refine (new75 _).mono ?_; rintro e w2 ⟨rfl, g1⟩) | go_in)
  go_ret
  exact ⟨_, rfl, .num, (((Gr.refl _).alloc _).trans g1).below⟩
set_option maxHeartbeats 2000000 in
set_option maxRecDepth 100000 in
theorem bu_flat4 {nm tx : ByteArray} {ak a1 a2 : Option Addr} {nk ck n1 c1 n2 c2 : Nat} (w : World) : Calls Tryz.prog 46 #[.agg #[.int .i64 4, .string nm, .string tx, .slice ak nk ck, .slice a1 n1 c1, .slice a2 n2 c2]] w (BuP (.mk 4 [] [] []) w) := by
  go_enter Tryz.func46, Tryz.ntmps46
  go_wp2_with (first | (go_at_call 76; refine (new76 _).mono ?_; rintro e w2 ⟨rfl, g1⟩) | go_in)
  go_ret
  exact ⟨_, rfl, .str, (((Gr.refl _).alloc _).trans g1).below⟩

set_option maxHeartbeats 4000000 in
set_option maxRecDepth 100000 in
theorem bu_set {m : Mem} {nm tx : ByteArray} {ak a1 a2 : Option Addr} {nk ck c1 n2 c2 : Nat} {k : IT} (w : World) (IH : Hid (BuOk k)) (hr : RowIT m a1 [k]) (lk : lenOk 1 c1) (hb : BT (toS k)) (hw : WI k ≤ 100000) (hm : MLe m w.cell?) :
    Calls Tryz.prog 46 #[.agg #[.int .i64 7, .string nm, .string tx, .slice ak nk ck, .slice a1 1 c1, .slice a2 n2 c2]] w (BuP (.mk 7 [] [nrm (toS k)] []) w) := by
  have HAT := Lib.hid (fun W hW => at_some (w := W) (ts := [k]) (i := 0) hr lk (by simp) IH hb hw hW)
  have HM := Lib.hid hm
  clear hr lk hb hw hm
  go_enter Tryz.func46, Tryz.ntmps46
  go_wp2_with (first | (go_at_call 79; refine (HAT.out _ (mle_alloc HM.out _)).mono ?_; rintro e w2 ⟨v, rfl, hrt, hbl⟩; obtain ⟨Ty, y, rfl⟩ := hrt.shape; have HRT := Lib.hid hrt; have HBL := Lib.hid hbl; clear hrt hbl) | (go_at_call 84; refine (nset_any _ _ _).mono ?_; rintro e w3 ⟨rfl, rfl⟩))
  go_ret
  have hs2 := HBL.out.size
  simp only [World.size_alloc] at hs2
  refine ⟨_, rfl, ?_, bl_alloc (bl_trans (bl_alloc (Below.refl _ _) _) HBL.out) _⟩
  refine RT.set (fr_cell (by omega) (al_new rfl) rfl) (HRT.out.mono ?_)
  exact fr_up (by simp) ((Below.refl _ _).alloc (Nat.le_refl _) _)

set_option maxHeartbeats 4000000 in
set_option maxRecDepth 100000 in
theorem bu_any {m : Mem} {nm tx : ByteArray} {ak a1 a2 : Option Addr} {nk ck c1 n2 c2 : Nat} {ts : List IT} (w : World) (IH : Hid (∀ t ∈ ts, BuOk t)) (hr : RowIT m a1 ts) (lk : lenOk ts.length c1) (hb : ∀ t ∈ ts, BT (toS t)) (hw : ∀ t ∈ ts, WI t ≤ 100000) (hn : ts.length ≤ 100000) (hm : MLe m w.cell?) :
    Calls Tryz.prog 46 #[.agg #[.int .i64 8, .string nm, .string tx, .slice ak nk ck, .slice a1 ts.length c1, .slice a2 n2 c2]] w (BuP (.mk 8 [] (srtT (ts.map fun t => nrm (toS t))) []) w) := by
  have HALL := Lib.hid (fun W hW => all_any (w := W) IH hr lk hb hw hn hW)
  have HM := Lib.hid hm
  have HN := Lib.hid (show (ts.map fun t => nrm (toS t)).length < 1000000 by simp; omega)
  clear hr lk hb hw hn hm
  generalize (ts.map fun t => nrm (toS t)) = L at HALL HN ⊢
  go_enter Tryz.func46, Tryz.ntmps46
  go_wp2_with (first | (go_at_call 78; refine (HALL.out _ (mle_alloc HM.out _)).mono ?_; rintro e w2 ⟨a, c, xs, rfl, lk, hl, row, hrt, hbl⟩; have HLK := Lib.hid lk; have HLL := Lib.hid hl; have HROW := Lib.hid row; have HRT := Lib.hid hrt; have HBL := Lib.hid hbl; clear lk hl row hrt hbl) | (go_at_call 85; refine (newAny_any HLK.out HLL.out HROW.out HRT.out (fr_leU (fun a x h => by cases h)) HN.out).mono ?_; rintro e w3 ⟨g, rfl, hown, hb3⟩; have HOWN := Lib.hid hown; have HB3 := Lib.hid hb3; clear hown hb3))
  go_ret
  have hs2 := HBL.out.size
  simp only [World.size_alloc] at hs2
  obtain ⟨a', c', ys, e, lok, hyl, row, hrt⟩ := HOWN.out.types
  have hsub := fun B1 (h : w.heap.size ≤ B1) => fr_two h (by omega : w.heap.size ≤ w2.heap.size) HB3.out
  refine ⟨.iface 110 (.slice a' (srtT L).length c'), by rw [← e]; rfl, ?_, bl_trans (bl_trans (bl_alloc (Below.refl _ _) _) HBL.out) HB3.out⟩
  exact RT.any lok hyl (row.mono (hsub _ (by simp))) (fun i h1 h2 => (hrt i h1 h2).mono (hsub _ (by simp)))
end Go.Proofs.YtaglgokeejjagaaGreat
/- 'built' of arrays. -/
namespace Go.Proofs.YtaglgokeejjagaaGreat
set_option linter.unusedVariables false
set_option linter.unusedSimpArgs false
open Go.RowKit Go.Sort Go.Proofs.YtaglgokeejjagaaGreatW.PrintLast

set_option maxHeartbeats 4000000 in
set_option maxRecDepth 100000 in
theorem bu_arr0 {m : Mem} {nm tx : ByteArray} {ak a1 a2 : Option Addr} {nk ck c1 c2 : Nat} {ts : List IT} (w : World) (IH : Hid (∀ t ∈ ts, BuOk t)) (hr : RowIT m a1 ts) (lk : lenOk ts.length c1) (hb : ∀ t ∈ ts, BT (toS t)) (hw : ∀ t ∈ ts, WI t ≤ 100000) (hn : ts.length ≤ 100000) (hm : MLe m w.cell?) :
    Calls Tryz.prog 46 #[.agg #[.int .i64 5, .string nm, .string tx, .slice ak nk ck, .slice a1 ts.length c1, .slice a2 0 c2]] w (BuP (.mk 5 [] (ts.map fun t => nrm (toS t)) []) w) := by
  have HALL := Lib.hid (fun W hW => all_any (w := W) IH hr lk hb hw hn hW)
  have HM := Lib.hid hm
  clear hr lk hb hw hn hm
  generalize (ts.map fun t => nrm (toS t)) = L at HALL ⊢
  go_enter Tryz.func46, Tryz.ntmps46
  go_wp2_with fail
  have HX0 := Lib.hid (al_new (w := w) (o := .cells #[.int .i64 5, .string nm, .string tx, .slice ak nk ck, .slice a1 ts.length c1, .slice a2 0 c2] 25) rfl)
  have HB0 := Lib.hid (bl_alloc (Below.refl _ w) (.cells #[.int .i64 5, .string nm, .string tx, .slice ak nk ck, .slice a1 ts.length c1, .slice a2 0 c2] 25))
  generalize (w.alloc (.cells #[.int .i64 5, .string nm, .string tx, .slice ak nk ck, .slice a1 ts.length c1, .slice a2 0 c2] 25)) = W at HX0 HB0 ⊢
  have HM0 := Lib.hid (HM.out.trans (mle_below HB0.out))
  refine start_ (n := 9) (S := fun w' => w'.cell? ⟨w.heap.size, 4, none⟩ = some (.slice a1 ts.length c1) ∧ w'.cell? ⟨w.heap.size, 5, none⟩ = some (.slice a2 0 c2)) (ds := []) (lb 9 0) (by kernel_rfl) rfl rfl ⟨cell_blk HX0.out 4 rfl, cell_blk HX0.out 5 rfl⟩ (fun hHeld => ?_)
  refine pure_ (i := 0) (N := some 26) (v := ?_) (a' := ?_) (lb 9 1) rfl rfl (by kernel_rfl) (fun _ _ _ h => h) (Or.inl ⟨by rfl, ?_⟩) ?_ ?_
  rotate_left
  · intro w'
    go_simp
    with_reducible rfl
  rotate_left
  · simp only [Act.put, nrA, nrB, nrC, i64_w, i32_w]
    rfl
  refine pure_ (i := 3) (N := some 29) (v := ?_) (a' := ?_) (lb 9 9) rfl rfl (by kernel_rfl) (fun _ _ _ h => h) (Or.inl ⟨by rfl, ?_⟩) ?_ ?_
  rotate_left
  · intro w'
    go_simp
    with_reducible rfl
  rotate_left
  · simp only [Act.put, nrA, nrB, nrC, i64_w, i32_w]
    rfl
  refine take_ (i := 1) (N := some 27) (v := ?_) (a' := ?_) (lb 9 11) rfl rfl (by kernel_rfl) (fun _ _ _ h => h) (Or.inl ⟨by rfl, ?_⟩) hHeld ?_ ?_
  rotate_left
  · rintro w' ⟨s0, s1⟩
    go_simp
    with_reducible rfl
  rotate_left
  · simp only [Act.put, nrA, nrB, nrC, i64_w, i32_w]
    rfl
  refine take_ (i := 4) (N := some 30) (v := ?_) (a' := ?_) (lb 9 27) rfl rfl (by kernel_rfl) (fun _ _ _ h => h) (Or.inl ⟨by rfl, ?_⟩) hHeld ?_ ?_
  rotate_left
  · rintro w' ⟨s0, s1⟩
    go_simp
    with_reducible rfl
  rotate_left
  · simp only [Act.put, nrA, nrB, nrC, i64_w, i32_w]
    rfl
  refine one_ (i := 2) (N := some 28) (lb 9 31) rfl rfl (by kernel_rfl) (by decide) (fun K hK => ?_)
  refine goes_ Tryz.func78 (by kernel_rfl) rfl #[.slice a1 ts.length c1] (by rfl) rfl rfl (by simp only [List.map_toArray, List.map_cons, List.map_nil]; rfl) ?_
  with_reducible refine (HALL.out _ (mle_drew HM0.out)).mono ?_
  rintro e w2 ⟨a, c, xs, rfl, lk, hl, row, hrt, hbl⟩
  refine ⟨_, rfl, ?_⟩
  have HLK := Lib.hid lk
  have HLL := Lib.hid hl
  have HROW := Lib.hid row
  have HRT := Lib.hid hrt
  have HBL := Lib.hid hbl
  have HX2 := Lib.hid (bl_heap hbl HX0.out)
  clear lk hl row hrt hbl
  refine hK.out _ _ ⟨cell_blk HX2.out 4 rfl, cell_blk HX2.out 5 rfl⟩ (fun hHeld => ?_)
  clear hK K
  refine norm_ (a' := ?_) ?_ ?_
  rotate_left
  · show Act.put _ (some 28) _ = _
    simp only [Act.put, nrA, nrB, nrC, i64_w, i32_w]
    rfl
  refine one_ (i := 5) (N := some 31) (lb 9 63) rfl rfl (by kernel_rfl) (by decide) (fun K hK => ?_)
  refine goes_ Tryz.func79 (by kernel_rfl) rfl #[.slice a2 0 c2, .int .i64 0] (by rfl) rfl rfl (by simp only [List.map_toArray, List.map_cons, List.map_nil]; rfl) ?_
  with_reducible refine (at_nil (by simp) _).mono ?_
  rintro e w3 ⟨rfl, hww⟩
  refine ⟨_, rfl, ?_⟩
  have hww := hww.symm
  subst hww
  refine hK.out _ _ ⟨cell_blk HX2.out 4 rfl, cell_blk HX2.out 5 rfl⟩ (fun hHeld => ?_)
  clear hK K
  refine norm_ (a' := ?_) ?_ ?_
  rotate_left
  · show Act.put _ (some 31) _ = _
    simp only [Act.put, nrA, nrB, nrC, i64_w, i32_w]
    rfl
  refine one_ (i := 6) (N := some 32) (lb 9 127) rfl rfl (by kernel_rfl) (by decide) (fun K hK => ?_)
  refine goes_ Tryz.func77 (by kernel_rfl) rfl #[.slice a L.length c, .nilIface] (by rfl) rfl rfl (by simp only [List.map_toArray, List.map_cons, List.map_nil]; rfl) ?_
  with_reducible refine (nar_any _ _ _ _ (.inl rfl) _).mono ?_
  rintro e w4 ⟨rfl, rfl⟩
  refine ⟨_, rfl, ?_⟩
  refine hK.out _ _ ⟨cell_blk (al_old HX2.out) 4 rfl, cell_blk (al_old HX2.out) 5 rfl⟩ (fun hHeld => ?_)
  clear hK K
  refine norm_ (a' := ?_) ?_ ?_
  rotate_left
  · show Act.put _ (some 32) _ = _
    simp only [Act.put, nrA, nrB, nrC, i64_w, i32_w]
    rfl
  refine pure_ (i := 7) (N := some 33) (v := ?_) (a' := ?_) (lb 9 255) rfl rfl (by kernel_rfl) (fun _ _ _ h => h) (Or.inl ⟨by rfl, ?_⟩) ?_ ?_
  rotate_left
  · intro w'
    go_simp
    with_reducible rfl
  rotate_left
  · simp only [Act.put, nrA, nrB, nrC, i64_w, i32_w]
    rfl
  refine pure_ (i := 8) (N := some 2) (v := ?_) (a' := ?_) (lb 9 511) rfl rfl (by kernel_rfl) (fun _ _ _ h => h) (Or.inl ⟨by rfl, ?_⟩) ?_ ?_
  rotate_left
  · intro w'
    go_simp
    with_reducible rfl
  rotate_left
  · simp only [Act.put, nrA, nrB, nrC, i64_w, i32_w]
    rfl
  refine done_ (by kernel_rfl) ?_
  go_wp2
  go_ret
  have hs0 := HB0.out.size
  have hs2 := HBL.out.size
  simp only [World.size_drew] at hs2
  have hup := fun B1 (h : w.heap.size ≤ B1) => fr_up (w' := w2.alloc (.cells #[.slice a L.length c, .nilIface] 151)) h ((Below.refl _ w2).alloc (Nat.le_refl _) _)
  refine ⟨_, rfl, ?_, bl_alloc (bl_trans HB0.out.drew HBL.out) _⟩
  exact RT.arr (ds := []) (fr_cell (by omega) (al_new rfl) rfl) (fr_cell (by omega) (al_new rfl) rfl) HLK.out HLL.out (HROW.out.mono (hup _ (by simpa using hs0))) (fun i h1 h2 => (HRT.out i h1 h2).mono (hup _ (by simpa using hs0))) rfl (by simp) (fun i h => absurd h (Nat.not_lt_zero _))

set_option maxHeartbeats 4000000 in
set_option maxRecDepth 100000 in
theorem bu_arr1 {m : Mem} {nm tx : ByteArray} {ak a1 a2 : Option Addr} {nk ck c1 c2 : Nat} {ts : List IT} {d : IT} (w : World) (IH : Hid (∀ t ∈ ts, BuOk t)) (hr : RowIT m a1 ts) (lk : lenOk ts.length c1) (hb : ∀ t ∈ ts, BT (toS t)) (hw : ∀ t ∈ ts, WI t ≤ 100000) (hn : ts.length ≤ 100000)
    (IHd : Hid (BuOk d)) (hrd : RowIT m a2 [d]) (lkd : lenOk 1 c2) (hbd : BT (toS d)) (hwd : WI d ≤ 100000) (hm : MLe m w.cell?) :
    Calls Tryz.prog 46 #[.agg #[.int .i64 5, .string nm, .string tx, .slice ak nk ck, .slice a1 ts.length c1, .slice a2 1 c2]] w (BuP (.mk 5 [] (ts.map fun t => nrm (toS t)) [nrm (toS d)]) w) := by
  have HALL := Lib.hid (fun W hW => all_any (w := W) IH hr lk hb hw hn hW)
  have HAT := Lib.hid (fun W hW => show Calls Tryz.prog 79 #[.slice a2 1 c2, .int .i64 0] W (BuP (nrm (toS d)) W) from at_some (w := W) (ts := [d]) (i := 0) hrd lkd (by simp) IHd hbd hwd hW)
  have HM := Lib.hid hm
  clear hr lk hb hw hn hm hrd lkd hbd hwd
  generalize (ts.map fun t => nrm (toS t)) = L at HALL ⊢
  go_enter Tryz.func46, Tryz.ntmps46
  go_wp2_with fail
  have HX0 := Lib.hid (al_new (w := w) (o := .cells #[.int .i64 5, .string nm, .string tx, .slice ak nk ck, .slice a1 ts.length c1, .slice a2 1 c2] 25) rfl)
  have HB0 := Lib.hid (bl_alloc (Below.refl _ w) (.cells #[.int .i64 5, .string nm, .string tx, .slice ak nk ck, .slice a1 ts.length c1, .slice a2 1 c2] 25))
  generalize (w.alloc (.cells #[.int .i64 5, .string nm, .string tx, .slice ak nk ck, .slice a1 ts.length c1, .slice a2 1 c2] 25)) = W at HX0 HB0 ⊢
  have HM0 := Lib.hid (HM.out.trans (mle_below HB0.out))
  refine start_ (n := 9) (S := fun w' => w'.cell? ⟨w.heap.size, 4, none⟩ = some (.slice a1 ts.length c1) ∧ w'.cell? ⟨w.heap.size, 5, none⟩ = some (.slice a2 1 c2)) (ds := []) (lb 9 0) (by kernel_rfl) rfl rfl ⟨cell_blk HX0.out 4 rfl, cell_blk HX0.out 5 rfl⟩ (fun hHeld => ?_)
  refine pure_ (i := 0) (N := some 26) (v := ?_) (a' := ?_) (lb 9 1) rfl rfl (by kernel_rfl) (fun _ _ _ h => h) (Or.inl ⟨by rfl, ?_⟩) ?_ ?_
  rotate_left
  · intro w'
    go_simp
    with_reducible rfl
  rotate_left
  · simp only [Act.put, nrA, nrB, nrC, i64_w, i32_w]
    rfl
  refine pure_ (i := 3) (N := some 29) (v := ?_) (a' := ?_) (lb 9 9) rfl rfl (by kernel_rfl) (fun _ _ _ h => h) (Or.inl ⟨by rfl, ?_⟩) ?_ ?_
  rotate_left
  · intro w'
    go_simp
    with_reducible rfl
  rotate_left
  · simp only [Act.put, nrA, nrB, nrC, i64_w, i32_w]
    rfl
  refine take_ (i := 1) (N := some 27) (v := ?_) (a' := ?_) (lb 9 11) rfl rfl (by kernel_rfl) (fun _ _ _ h => h) (Or.inl ⟨by rfl, ?_⟩) hHeld ?_ ?_
  rotate_left
  · rintro w' ⟨s0, s1⟩
    go_simp
    with_reducible rfl
  rotate_left
  · simp only [Act.put, nrA, nrB, nrC, i64_w, i32_w]
    rfl
  refine take_ (i := 4) (N := some 30) (v := ?_) (a' := ?_) (lb 9 27) rfl rfl (by kernel_rfl) (fun _ _ _ h => h) (Or.inl ⟨by rfl, ?_⟩) hHeld ?_ ?_
  rotate_left
  · rintro w' ⟨s0, s1⟩
    go_simp
    with_reducible rfl
  rotate_left
  · simp only [Act.put, nrA, nrB, nrC, i64_w, i32_w]
    rfl
  refine one_ (i := 2) (N := some 28) (lb 9 31) rfl rfl (by kernel_rfl) (by decide) (fun K hK => ?_)
  refine goes_ Tryz.func78 (by kernel_rfl) rfl #[.slice a1 ts.length c1] (by rfl) rfl rfl (by simp only [List.map_toArray, List.map_cons, List.map_nil]; rfl) ?_
  with_reducible refine (HALL.out _ (mle_drew HM0.out)).mono ?_
  rintro e w2 ⟨a, c, xs, rfl, lk, hl, row, hrt, hbl⟩
  refine ⟨_, rfl, ?_⟩
  have HLK := Lib.hid lk
  have HLL := Lib.hid hl
  have HROW := Lib.hid row
  have HRT := Lib.hid hrt
  have HBL := Lib.hid hbl
  have HX2 := Lib.hid (bl_heap hbl HX0.out)
  clear lk hl row hrt hbl
  refine hK.out _ _ ⟨cell_blk HX2.out 4 rfl, cell_blk HX2.out 5 rfl⟩ (fun hHeld => ?_)
  clear hK K
  refine norm_ (a' := ?_) ?_ ?_
  rotate_left
  · show Act.put _ (some 28) _ = _
    simp only [Act.put, nrA, nrB, nrC, i64_w, i32_w]
    rfl
  refine one_ (i := 5) (N := some 31) (lb 9 63) rfl rfl (by kernel_rfl) (by decide) (fun K hK => ?_)
  refine goes_ Tryz.func79 (by kernel_rfl) rfl #[.slice a2 1 c2, .int .i64 0] (by rfl) rfl rfl (by simp only [List.map_toArray, List.map_cons, List.map_nil]; rfl) ?_
  with_reducible refine (HAT.out _ ((mle_drew HM0.out).trans (mle_below HBL.out))).mono ?_
  rintro e w3 ⟨v, rfl, hrt, hbl⟩
  refine ⟨_, rfl, ?_⟩
  obtain ⟨Ty, y, rfl⟩ := hrt.shape
  have HRT3 := Lib.hid hrt
  have HBL3 := Lib.hid hbl
  have HX3 := Lib.hid (bl_heap hbl HX2.out)
  clear hrt hbl
  refine hK.out _ _ ⟨cell_blk HX3.out 4 rfl, cell_blk HX3.out 5 rfl⟩ (fun hHeld => ?_)
  clear hK K
  refine norm_ (a' := ?_) ?_ ?_
  rotate_left
  · show Act.put _ (some 31) _ = _
    simp only [Act.put, nrA, nrB, nrC, i64_w, i32_w]
    rfl
  refine one_ (i := 6) (N := some 32) (lb 9 127) rfl rfl (by kernel_rfl) (by decide) (fun K hK => ?_)
  refine goes_ Tryz.func77 (by kernel_rfl) rfl #[.slice a L.length c, .iface Ty y] (by rfl) rfl rfl (by simp only [List.map_toArray, List.map_cons, List.map_nil]; rfl) ?_
  with_reducible refine (nar_any _ _ _ _ (.inr ⟨_, _, rfl⟩) _).mono ?_
  rintro e w4 ⟨rfl, rfl⟩
  refine ⟨_, rfl, ?_⟩
  refine hK.out _ _ ⟨cell_blk (al_old HX3.out) 4 rfl, cell_blk (al_old HX3.out) 5 rfl⟩ (fun hHeld => ?_)
  clear hK K
  refine norm_ (a' := ?_) ?_ ?_
  rotate_left
  · show Act.put _ (some 32) _ = _
    simp only [Act.put, nrA, nrB, nrC, i64_w, i32_w]
    rfl
  refine pure_ (i := 7) (N := some 33) (v := ?_) (a' := ?_) (lb 9 255) rfl rfl (by kernel_rfl) (fun _ _ _ h => h) (Or.inl ⟨by rfl, ?_⟩) ?_ ?_
  rotate_left
  · intro w'
    go_simp
    with_reducible rfl
  rotate_left
  · simp only [Act.put, nrA, nrB, nrC, i64_w, i32_w]
    rfl
  refine pure_ (i := 8) (N := some 2) (v := ?_) (a' := ?_) (lb 9 511) rfl rfl (by kernel_rfl) (fun _ _ _ h => h) (Or.inl ⟨by rfl, ?_⟩) ?_ ?_
  rotate_left
  · intro w'
    go_simp
    with_reducible rfl
  rotate_left
  · simp only [Act.put, nrA, nrB, nrC, i64_w, i32_w]
    rfl
  refine done_ (by kernel_rfl) ?_
  go_wp2
  go_ret
  have hs0 := HB0.out.size
  have hs2 := HBL.out.size
  have hs3 := HBL3.out.size
  simp only [World.size_drew] at hs2
  have hup := fun B1 (h : w.heap.size ≤ B1) => fr_up (w' := w3.alloc (.cells #[.slice a L.length c, .iface Ty y] 151)) h (bl_alloc HBL3.out _)
  have hup3 := fun B1 (h : w.heap.size ≤ B1) => fr_up (w' := w3.alloc (.cells #[.slice a L.length c, .iface Ty y] 151)) h ((Below.refl _ w3).alloc (Nat.le_refl _) _)
  refine ⟨_, rfl, ?_, bl_alloc (bl_trans (bl_trans HB0.out.drew HBL.out) HBL3.out) _⟩
  exact RT.arr (ds := [.iface Ty y]) (fr_cell (by omega) (al_new rfl) rfl) (fr_cell (by omega) (al_new rfl) rfl) HLK.out HLL.out (HROW.out.mono (hup _ (by simpa using hs0))) (fun i h1 h2 => (HRT.out i h1 h2).mono (hup _ (by simpa using hs0))) rfl (by simp) (fun i h1 h2 => by
    obtain rfl : i = 0 := by simp at h1; omega
    exact HRT3.out.mono (hup3 _ (by omega)))
end Go.Proofs.YtaglgokeejjagaaGreat
/- 'built' of objects; 'built', whole. -/
namespace Go.Proofs.YtaglgokeejjagaaGreat
set_option linter.unusedVariables false
set_option linter.unusedSimpArgs false
open Go.RowKit Go.Sort Go.Proofs.YtaglgokeejjagaaGreatW.PrintLast

theorem Own.objectD {m : Mem} {B b q : Nat} {w : World} {v x y : Value} {s1 s2 : ST} {l : List Pr} (h : Own ESP m 100 1 B w v l) (so : l.Pairwise (fun a b => AK.lt a.1 b.1)) (hB : B ≤ b) (hb : w.heap[b]? = some (.cells #[v, .pointer (some ⟨q, 0, none⟩)] 154 (0, 0)))
    (hqB : B ≤ q) (hq : w.heap[q]? = some (.cells #[x, y] 107 (0, 0))) (hx1 : RT (fr m B w none) x s1) (hy1 : RT (fr m B w none) y s2) :
    RT (fr m B w none) (.iface 80 (.pointer (some ⟨b, 0, none⟩))) (.mk 6 (l.map fun x => kyOf x.1) (l.map (·.2)) [s1, s2]) := by
  obtain ⟨a, c, f, rfl, h1, h2, hr, hx⟩ := h.row em_ESP
  obtain ⟨pxs, hl, hp⟩ := ex_list l.length (fun i (x : Nat × Value) => f i = [.pointer (some ⟨x.1, 0, none⟩)] ∧ ∀ (h : i < l.length), fr m B w none ⟨x.1, 0, none⟩ = some l[i].1.v ∧ fr m B w none ⟨x.1, 1, none⟩ = some x.2 ∧ RT (fr m B w none) x.2 l[i].2)
    (fun i hi => by obtain ⟨p, tv, e1, e2, e3, e4⟩ := hx i hi; exact ⟨(p, tv), e1, fun _ => ⟨e2, e3, e4⟩⟩)
  have hfr : ∀ (a : Addr) v, B ≤ a.block → ucell w a = some v → fr m B w none a = some v := fun a v h1 h2 => by unfold fr; rw [if_pos h1, if_neg (by simp)]; exact h2
  have e0 : (l.map fun x => kyOf x.1) = (l.map (·.1)).map kyOf := by simp
  rw [e0]
  refine RT.obj (more := [s1, s2]) (kids := l.map (·.2)) (ps := pxs.map (·.1)) (xs := pxs.map (·.2)) (ks := l.map (·.1)) (dv := .pointer (some ⟨q, 0, none⟩)) (ds := [x, y]) (a := a) (c := c) ?_ (hfr _ _ hB (ucell_blk hb 1 rfl)) ?_ (by simp [hl]) (by simp [hl]) (by simp) ?_ ?_ ?_ ?_ ?_ (.inr ⟨q, rfl, rfl, rfl, fun i hi => ?_⟩) (fun i h1 h2 => ?_)
  · rw [List.length_map]; exact hfr _ _ hB (ucell_blk hb 0 rfl)
  · rw [List.length_map]; exact ⟨h1, Nat.le_trans h2 (by simp [maxLen])⟩
  · refine rowX_of hr (by simp [hl]) (fun i hi => ?_)
    have hi' : i < pxs.length := by simpa using hi
    simpa using (hp i hi').1
  · intro i h1 h2
    have hi' : i < pxs.length := by simpa using h1
    simpa using ((hp i hi').2 (by omega)).1
  · intro i h1 h2
    have hi' : i < pxs.length := by simpa using h1
    simpa using ((hp i hi').2 (by omega)).2.1
  · intro i h1 h2
    have hi' : i < pxs.length := by simpa using h1
    simpa using ((hp i hi').2 (by omega)).2.2
  · rw [List.pairwise_map]; exact so
  · rcases i with _ | _ | i
    · exact hfr _ _ hqB (ucell_blk hq 0 rfl)
    · exact hfr _ _ hqB (ucell_blk hq 1 rfl)
    · exact absurd hi (by simp only [List.length_cons, List.length_nil]; omega)
  · rcases i with _ | _ | i
    · exact hx1
    · exact hy1
    · exact absurd h1 (by simp only [List.length_cons, List.length_nil]; omega)

theorem m0_le (f : Mem) : MLe m0 f := fun a x h => by cases h
theorem esp_new2 {w2 w3 : World} {Ty : Nat} {y : Value} {k : AK} {ty : ST} {o : Obj} (hrt : RT (fr m0 w2.heap.size w3 none) (.iface Ty y) ty) (hs : w2.heap.size ≤ w3.heap.size) :
    ESP (fr m0 w2.heap.size ((w3.alloc (.cells #[k.v, .iface Ty y] 103)).alloc o) none) [.pointer (some ⟨w3.heap.size, 0, none⟩)] (k, ty) := by
  have hc : ∀ i (v : Value), (#[k.v, Value.iface Ty y] : Array Value)[i]? = some v → fr m0 w2.heap.size ((w3.alloc (.cells #[k.v, .iface Ty y] 103)).alloc o) none ⟨w3.heap.size, i, none⟩ = some v := fun i v h => by
    unfold fr
    rw [if_pos hs, if_neg (by simp)]
    exact ucell_blk (al_old (al_new rfl)) i h
  exact ⟨_, _, rfl, hc 0 _ rfl, hc 1 _ rfl, (hrt.mono (fr_alloc _)).mono (fr_alloc _)⟩


set_option maxHeartbeats 4000000 in
set_option maxRecDepth 100000 in
theorem bu_obj0 {m : Mem} {nm tx : ByteArray} {ak a1 a2 : Option Addr} {ck c1 n2 c2 : Nat} {ks : List AK} {ts : List IT} {L : List ST} (w : World) (hn2 : n2 = 0) (lk : lenOk ks.length ck) (rk : ∀ k (h : k < ks.length), ∃ b off, ak = some ⟨b, off, none⟩ ∧ m ⟨b, off + k * 2, none⟩ = some (.int .i64 (kyOf ks[k]).kind) ∧ m ⟨b, off + k * 2 + 1, none⟩ = some (.string (kyOf ks[k]).text))
    (hL : L.length = ks.length) (hd : ks.Nodup) (hat : ∀ k (h : k < ks.length), ∃ h2 : k < L.length, ∀ W : World, MLe m W.cell? → Calls Tryz.prog 79 #[.slice a1 ts.length c1, .int .i64 k] W (BuP L[k] W)) (hn : ks.length ≤ 100000) (hm : MLe m w.cell?) :
    Calls Tryz.prog 46 #[.agg #[.int .i64 6, .string nm, .string tx, .slice ak ks.length ck, .slice a1 ts.length c1, .slice a2 n2 c2]] w (BuP (.mk 6 ((objP ks L).map fun x => kyOf x.1) ((objP ks L).map (·.2)) []) w) := by
  obtain ⟨lk1, lk2⟩ := lk
  have HK := Lib.hid rk
  have HLL := Lib.hid hL
  have HD := Lib.hid hd
  have HAT := Lib.hid hat
  have HN := Lib.hid hn
  have HM := Lib.hid hm
  have HN2 := Lib.hid hn2
  clear rk hL hd hat hn hm hn2
  go_enter Tryz.func46, Tryz.ntmps46
  go_wp2_with fail
  have HX0 := Lib.hid (al_new (w := w) (o := .cells #[.int .i64 6, .string nm, .string tx, .slice ak ks.length ck, .slice a1 ts.length c1, .slice a2 n2 c2] 25) rfl)
  have HB0 := Lib.hid (bl_alloc (Below.refl _ w) (.cells #[.int .i64 6, .string nm, .string tx, .slice ak ks.length ck, .slice a1 ts.length c1, .slice a2 n2 c2] 25))
  have HSW := Lib.hid (show (w.alloc (.cells #[.int .i64 6, .string nm, .string tx, .slice ak ks.length ck, .slice a1 ts.length c1, .slice a2 n2 c2] 25)).heap.size = w.heap.size + 1 by simp)
  obtain ⟨x0, x1, x2, x3, x4, x5⟩ := cells6 HX0.out
  have hbo := lt_blk HX0.out
  generalize (w.alloc (.cells #[.int .i64 6, .string nm, .string tx, .slice ak ks.length ck, .slice a1 ts.length c1, .slice a2 n2 c2] 25)) = W at HX0 HB0 HSW x0 x1 x2 x3 x4 x5 hbo ⊢
  have HM0 := Lib.hid (HM.out.trans (mle_below HB0.out))
  go_wp2
  clear x0 x1 x2 x3 x4 x5 hbo
  go_loopw [3, 39] (fun v i wr => ∃ k : Nat, k ≤ ks.length ∧ i = .int .i64 k ∧ Hid (Own ESP m0 100 1 W.heap.size wr v ((ks.zip L).take k) ∧ Below W.heap.size W wr)) (fun _ i _ => ks.length - (intOf i).toNat)
  case atStart => exact ⟨0, Nat.zero_le _, rfl, Own.nil .., Below.refl _ _⟩
  case round =>
    obtain ⟨k, hk, rfl, hI⟩ := hrel
    by_cases hlt : k < ks.length
    · obtain ⟨b, off, ea, e0, e1⟩ := HK.out k hlt
      subst ea
      have hm1 := HM0.out.trans (mle_below hI.out.2)
      replace e0 := hm1 _ _ e0
      replace e1 := hm1 _ _ e1
      have HM1 := Lib.hid hm1
      have HXR := Lib.hid (bl_heap hI.out.2 HX0.out)
      clear hm1
      obtain ⟨hkl, hAk⟩ := HAT.out k hlt
      have HAk := Lib.hid hAk
      obtain ⟨ky, hky⟩ : ∃ ky, ky = kyOf ks[k] := ⟨_, rfl⟩
      have HKY := Lib.hid (show akOf ky = ks[k] by rw [hky]; exact akOf_kyOf _)
      rw [← hky] at e0 e1
      have HZL := Lib.hid (show ((ks.zip L).take k).length = k by have h1 := HLL.out; simp; omega)
      clear hAk hky
      have HOWN := Lib.hid hI.out.1
      have HBWR := Lib.hid hI.out.2
      go_wp2
      have HC := Lib.hid (show (wr.alloc (.cells #[.int .i64 ky.kind, .string ky.text] 54)).heap[wr.heap.size]? = _ from al_new rfl)
      have HXC := Lib.hid (show (wr.alloc (.cells #[.int .i64 ky.kind, .string ky.text] 54)).heap[w.heap.size]? = _ from al_old HXR.out)
      refine start_ (n := 11) (S := fun w' => w'.cell? ⟨wr.heap.size, 0, none⟩ = some (.int .i64 ky.kind) ∧ w'.cell? ⟨wr.heap.size, 1, none⟩ = some (.string ky.text) ∧ w'.cell? ⟨w.heap.size, 4, none⟩ = some (.slice a1 ts.length c1)) (ds := []) (lb 11 0) (by kernel_rfl) rfl rfl ⟨cell_blk HC.out 0 rfl, cell_blk HC.out 1 rfl, cell_blk HXC.out 4 rfl⟩ (fun hHeld => ?_)
      refine pure_ (i := 0) (N := some 44) (v := ?_) (a' := ?_) (lb 11 1) rfl rfl (by kernel_rfl) (fun _ _ _ h => h) (Or.inl ⟨by rfl, ?_⟩) ?_ ?_
      rotate_left
      · intro w'
        go_simp
        with_reducible rfl
      rotate_left
      · simp only [Act.put, nrA, nrB, nrC, i64_w, i32_w]
        rfl
      refine pure_ (i := 3) (N := some 47) (v := ?_) (a' := ?_) (lb 11 9) rfl rfl (by kernel_rfl) (fun _ _ _ h => h) (Or.inl ⟨by rfl, ?_⟩) ?_ ?_
      rotate_left
      · intro w'
        go_simp
        with_reducible rfl
      rotate_left
      · simp only [Act.put, nrA, nrB, nrC, i64_w, i32_w]
        rfl
      refine pure_ (i := 5) (N := some 49) (v := ?_) (a' := ?_) (lb 11 41) rfl rfl (by kernel_rfl) (fun _ _ _ h => h) (Or.inl ⟨by rfl, ?_⟩) ?_ ?_
      rotate_left
      · intro w'
        go_simp
        with_reducible rfl
      rotate_left
      · simp only [Act.put, nrA, nrB, nrC, i64_w, i32_w]
        rfl
      refine take_ (i := 1) (N := some 45) (v := ?_) (a' := ?_) (lb 11 43) rfl rfl (by kernel_rfl) (fun _ _ _ h => h) (Or.inl ⟨by rfl, ?_⟩) hHeld ?_ ?_
      rotate_left
      · rintro w' ⟨s0, s1, s2⟩
        go_simp
        with_reducible rfl
      rotate_left
      · simp only [Act.put, nrA, nrB, nrC, i64_w, i32_w]
        rfl
      refine take_ (i := 4) (N := some 48) (v := ?_) (a' := ?_) (lb 11 59) rfl rfl (by kernel_rfl) (fun _ _ _ h => h) (Or.inl ⟨by rfl, ?_⟩) hHeld ?_ ?_
      rotate_left
      · rintro w' ⟨s0, s1, s2⟩
        go_simp
        with_reducible rfl
      rotate_left
      · simp only [Act.put, nrA, nrB, nrC, i64_w, i32_w]
        rfl
      refine one_ (i := 2) (N := some 46) (lb 11 63) rfl rfl (by kernel_rfl) (by decide) (fun K hK => ?_)
      refine goes_ Tryz.func81 (by kernel_rfl) rfl #[.agg #[.int .i64 ky.kind, .string ky.text]] (by rfl) rfl rfl (by simp only [List.map_toArray, List.map_cons, List.map_nil]; rfl) ?_
      with_reducible refine (key_any ky _).mono ?_
      rintro e w1 ⟨rfl, hg1⟩
      refine ⟨_, rfl, ?_⟩
      have HG1 := Lib.hid hg1
      have HC1 := Lib.hid (bl_heap hg1.below HC.out)
      have HX1 := Lib.hid (bl_heap hg1.below HXC.out)
      clear hg1
      refine hK.out _ _ ⟨cell_blk HC1.out 0 rfl, cell_blk HC1.out 1 rfl, cell_blk HX1.out 4 rfl⟩ (fun hHeld => ?_)
      clear hK K
      refine norm_ (a' := ?_) ?_ ?_
      rotate_left
      · show Act.put _ (some 46) _ = _
        simp only [Act.put, nrA, nrB, nrC, i64_w, i32_w]
        rfl
      refine one_ (i := 6) (N := some 50) (lb 11 127) rfl rfl (by kernel_rfl) (by decide) (fun K hK => ?_)
      refine goes_ Tryz.func79 (by kernel_rfl) rfl #[.slice a1 ts.length c1, .int .i64 k] (by rfl) rfl rfl (by simp only [List.map_toArray, List.map_cons, List.map_nil]; rfl) ?_
      with_reducible refine (HAk.out _ ((mle_drew (mle_alloc HM1.out _)).trans HG1.out.mle)).mono ?_
      rintro e w2 ⟨tv, rfl, hrt, hbl⟩
      refine ⟨_, rfl, ?_⟩
      obtain ⟨Ty, y, rfl⟩ := hrt.shape
      have HRT := Lib.hid hrt
      have HBL := Lib.hid hbl
      have HC2 := Lib.hid (bl_heap hbl HC1.out)
      have HX2 := Lib.hid (bl_heap hbl HX1.out)
      clear hrt hbl
      refine hK.out _ _ ⟨cell_blk HC2.out 0 rfl, cell_blk HC2.out 1 rfl, cell_blk HX2.out 4 rfl⟩ (fun hHeld => ?_)
      clear hK K
      refine norm_ (a' := ?_) ?_ ?_
      rotate_left
      · show Act.put _ (some 50) _ = _
        simp only [Act.put, nrA, nrB, nrC, i64_w, i32_w]
        rfl
      refine one_ (i := 7) (N := some 51) (lb 11 255) rfl rfl (by kernel_rfl) (by decide) (fun K hK => ?_)
      refine goes_ Tryz.func80 (by kernel_rfl) rfl #[(akOf ky).v, .iface Ty y] (by rfl) rfl rfl (by simp only [List.map_toArray, List.map_cons, List.map_nil]; rfl) ?_
      with_reducible refine (nsp_any _ _ _ _).mono ?_
      rintro e w3 ⟨rfl, rfl⟩
      refine ⟨_, rfl, ?_⟩
      refine hK.out _ _ ⟨cell_blk (al_old HC2.out) 0 rfl, cell_blk (al_old HC2.out) 1 rfl, cell_blk (al_old HX2.out) 4 rfl⟩ (fun hHeld => ?_)
      clear hK K
      refine norm_ (a' := ?_) ?_ ?_
      rotate_left
      · show Act.put _ (some 51) _ = _
        simp only [Act.put, nrA, nrB, nrC, i64_w, i32_w]
        rfl
      refine one_ (i := 8) (N := some 52) (lb 11 511) rfl rfl (by kernel_rfl) (by decide) (fun K hK => ?_)
      refine value_ (w1 := ?_) (v := ?_) (by rfl) rfl ?_ ?_
      rotate_left 2
      · go_simp
        constructor
        · rfl
        · rfl
      refine hK.out _ _ ⟨cell_blk (al_old (al_old HC2.out)) 0 rfl, cell_blk (al_old (al_old HC2.out)) 1 rfl, cell_blk (al_old (al_old HX2.out)) 4 rfl⟩ (fun hHeld => ?_)
      clear hK K
      refine norm_ (a' := ?_) ?_ ?_
      rotate_left
      · show Act.put _ (some 52) _ = _
        simp only [Act.put, nrA, nrB, nrC, i64_w, i32_w]
        rfl
      refine one_ (i := 9) (N := some 53) (lb 11 1023) rfl rfl (by kernel_rfl) (by decide) (fun K hK => ?_)
      refine step_snoc em_ESP rfl _ _ _ rfl rfl _ _ rfl (y := (akOf ky, L[k])) (l := (ks.zip L).take k) (B := W.heap.size) (m := m0)  ⟨((((((HOWN.out.alloc em_ESP _).drew em_ESP).bl em_ESP HG1.out.below).bl em_ESP HBL.out).alloc em_ESP _).alloc em_ESP _), lo_m0 _, cells_new2 _ _ _ _, rfl, by simp [Value.oneCell'], ⟨w1.heap.size, esp_new2 HRT.out HBL.out.size, by have h1 := HG1.out.size; have h2 := HBWR.out.size; simp at h1; omega, fun k' e => by have h1 := (HOWN.out.lt k' e).2; have h2 := HG1.out.size; simp at h2; omega⟩, ⟨8, sl98, by have := HZL.out; have := HN.out; simp; omega⟩, by have := HZL.out; have := HN.out; simp [maxLen]; omega, by have h1 := HG1.out.size; have h2 := HBWR.out.size; have h3 := HBL.out.size; simp at h1 ⊢; omega⟩ ?_
      intro g' cap w4 hown4 hg4 hv4 hgg
      have HC4 := Lib.hid (grown_heap hg4 (al_old (al_old HC2.out)) (fun k' e => by have := (HOWN.out.lt k' e).2; omega))
      have HX4 := Lib.hid (grown_heap hg4 (al_old (al_old HX2.out)) (fun k' e => by have := hv4 k' e; have := HSW.out; omega))
      refine hK.out _ _ ⟨cell_blk HC4.out 0 rfl, cell_blk HC4.out 1 rfl, cell_blk HX4.out 4 rfl⟩ (fun hHeld => ?_)
      clear hK K
      refine norm_ (a' := ?_) ?_ ?_
      rotate_left
      · show Act.put _ (some 53) _ = _
        simp only [Act.put, nrA, nrB, nrC, i64_w, i32_w]
        rfl
      refine pure_ (i := 10) (N := some 3) (v := ?_) (a' := ?_) (lb 11 2047) rfl rfl (by kernel_rfl) (fun _ _ _ h => h) (Or.inl ⟨by rfl, ?_⟩) ?_ ?_
      rotate_left
      · intro w'
        go_simp
        with_reducible rfl
      rotate_left
      · simp only [Act.put, nrA, nrB, nrC, i64_w, i32_w]
        rfl
      refine done_ (by kernel_rfl) ?_
      have HOWN4 := Lib.hid hown4
      have HBL4 := Lib.hid (bl_grown (bl_alloc (bl_alloc (bl_trans (bl_trans (bl_alloc HBWR.out _).drew HG1.out.below) HBL.out) _) _) hg4 hv4)
      clear hown4 hg4 hv4 hgg
      go_wp2
      go_roundw
      case rel =>
        refine ⟨k + 1, by omega, by go_num, ?_, HBL4.out⟩
        have ho := HOWN4.out
        have ek : (ks.zip L).take (k + 1) = (ks.zip L).take k ++ [(akOf ky, L[k])] := by
          have h1 := HLL.out
          rw [List.take_succ_eq_append_getElem (by simp; omega), HKY.out]; simp
        rw [← ek, HZL.out] at ho
        have e9 : min k (min ks.length L.length) = k := by have := HLL.out; omega
        rw [e9]
        exact ho
      case measure => simp [intOf]; omega
    · obtain rfl : k = ks.length := by omega
      have HXR := Lib.hid (bl_heap hI.out.2 HX0.out)
      have HBWR := Lib.hid hI.out.2
      have HOWN := Lib.hid (show Own ESP m0 100 1 W.heap.size wr _ (ks.zip L) by
        have h := hI.out.1
        rw [List.take_of_length_le (by have := HLL.out; simp; omega)] at h; exact h)
      have HAP := Lib.hid (zip_apart HLL.out.symm HD.out)
      have HLEN := Lib.hid (show (ks.zip L).length < 1000000 by have := HN.out; simp; omega)
      clear hI
      obtain ⟨x0, x1, x2, x3, x4, x5⟩ := cells6 HXR.out
      have hbo := lt_blk HXR.out
      have hd2 : decide ((n2 : Int) < 2) = true := by rw [HN2.out]; rfl
      have hd3 : decide (n2 < 2) = true := by rw [HN2.out]; rfl
      go_wp2_with (go_at_call 82; refine (newObject_any (m := m0) (B := W.heap.size) (fun a x h => by cases h) (lo_m0 _) HOWN.out HAP.out HLEN.out).mono ?_; rintro e w5 ⟨bo, l', rfl, hb1, hb2, hpm, hso, hown5, hg5⟩)
      go_ret
      have el : l' = objP ks L := srtP_of HAP.out hpm hso
      have hs := HSW.out
      have hs2 := HBWR.out.size
      have ho := (hown5.object hso (by omega) hb2).mono (fr_up (B := w.heap.size) (by omega) (Below.refl _ w5))
      rw [el] at ho
      exact ⟨_, rfl, ho, bl_grown (bl_trans HB0.out HBWR.out) hg5 (fun k e => by have := (HOWN.out.lt k e).1; omega)⟩

set_option maxHeartbeats 4000000 in
set_option maxRecDepth 100000 in
theorem bu_obj2 {m : Mem} {nm tx : ByteArray} {ak a1 a2 : Option Addr} {ck c1 n2 c2 : Nat} {ks : List AK} {ts : List IT} {L : List ST} {s1 s2 : ST} (w : World) (hn2 : n2 = 2) (lk : lenOk ks.length ck) (rk : ∀ k (h : k < ks.length), ∃ b off, ak = some ⟨b, off, none⟩ ∧ m ⟨b, off + k * 2, none⟩ = some (.int .i64 (kyOf ks[k]).kind) ∧ m ⟨b, off + k * 2 + 1, none⟩ = some (.string (kyOf ks[k]).text))
    (hL : L.length = ks.length) (hd : ks.Nodup) (hat : ∀ k (h : k < ks.length), ∃ h2 : k < L.length, ∀ W : World, MLe m W.cell? → Calls Tryz.prog 79 #[.slice a1 ts.length c1, .int .i64 k] W (BuP L[k] W)) (hn : ks.length ≤ 100000)
    (hd1 : ∀ W : World, MLe m W.cell? → Calls Tryz.prog 79 #[.slice a2 n2 c2, .int .i64 0] W (BuP s1 W)) (hd2 : ∀ W : World, MLe m W.cell? → Calls Tryz.prog 79 #[.slice a2 n2 c2, .int .i64 1] W (BuP s2 W)) (hm : MLe m w.cell?) :
    Calls Tryz.prog 46 #[.agg #[.int .i64 6, .string nm, .string tx, .slice ak ks.length ck, .slice a1 ts.length c1, .slice a2 n2 c2]] w (BuP (.mk 6 ((objP ks L).map fun x => kyOf x.1) ((objP ks L).map (·.2)) [s1, s2]) w) := by
  obtain ⟨lk1, lk2⟩ := lk
  have HK := Lib.hid rk
  have HLL := Lib.hid hL
  have HD := Lib.hid hd
  have HAT := Lib.hid hat
  have HA1 := Lib.hid hd1
  have HA2 := Lib.hid hd2
  have HN := Lib.hid hn
  have HM := Lib.hid hm
  have HN2 := Lib.hid hn2
  clear rk hL hd hat hn hm hn2 hd1 hd2
  go_enter Tryz.func46, Tryz.ntmps46
  go_wp2_with fail
  have HX0 := Lib.hid (al_new (w := w) (o := .cells #[.int .i64 6, .string nm, .string tx, .slice ak ks.length ck, .slice a1 ts.length c1, .slice a2 n2 c2] 25) rfl)
  have HB0 := Lib.hid (bl_alloc (Below.refl _ w) (.cells #[.int .i64 6, .string nm, .string tx, .slice ak ks.length ck, .slice a1 ts.length c1, .slice a2 n2 c2] 25))
  have HSW := Lib.hid (show (w.alloc (.cells #[.int .i64 6, .string nm, .string tx, .slice ak ks.length ck, .slice a1 ts.length c1, .slice a2 n2 c2] 25)).heap.size = w.heap.size + 1 by simp)
  obtain ⟨x0, x1, x2, x3, x4, x5⟩ := cells6 HX0.out
  have hbo := lt_blk HX0.out
  generalize (w.alloc (.cells #[.int .i64 6, .string nm, .string tx, .slice ak ks.length ck, .slice a1 ts.length c1, .slice a2 n2 c2] 25)) = W at HX0 HB0 HSW x0 x1 x2 x3 x4 x5 hbo ⊢
  have HM0 := Lib.hid (HM.out.trans (mle_below HB0.out))
  go_wp2
  clear x0 x1 x2 x3 x4 x5 hbo
  go_loopw [3, 39] (fun v i wr => ∃ k : Nat, k ≤ ks.length ∧ i = .int .i64 k ∧ Hid (Own ESP m0 100 1 W.heap.size wr v ((ks.zip L).take k) ∧ Below W.heap.size W wr)) (fun _ i _ => ks.length - (intOf i).toNat)
  case atStart => exact ⟨0, Nat.zero_le _, rfl, Own.nil .., Below.refl _ _⟩
  case round =>
    obtain ⟨k, hk, rfl, hI⟩ := hrel
    by_cases hlt : k < ks.length
    · obtain ⟨b, off, ea, e0, e1⟩ := HK.out k hlt
      subst ea
      have hm1 := HM0.out.trans (mle_below hI.out.2)
      replace e0 := hm1 _ _ e0
      replace e1 := hm1 _ _ e1
      have HM1 := Lib.hid hm1
      have HXR := Lib.hid (bl_heap hI.out.2 HX0.out)
      clear hm1
      obtain ⟨hkl, hAk⟩ := HAT.out k hlt
      have HAk := Lib.hid hAk
      obtain ⟨ky, hky⟩ : ∃ ky, ky = kyOf ks[k] := ⟨_, rfl⟩
      have HKY := Lib.hid (show akOf ky = ks[k] by rw [hky]; exact akOf_kyOf _)
      rw [← hky] at e0 e1
      have HZL := Lib.hid (show ((ks.zip L).take k).length = k by have h1 := HLL.out; simp; omega)
      clear hAk hky
      have HOWN := Lib.hid hI.out.1
      have HBWR := Lib.hid hI.out.2
      go_wp2
      have HC := Lib.hid (show (wr.alloc (.cells #[.int .i64 ky.kind, .string ky.text] 54)).heap[wr.heap.size]? = _ from al_new rfl)
      have HXC := Lib.hid (show (wr.alloc (.cells #[.int .i64 ky.kind, .string ky.text] 54)).heap[w.heap.size]? = _ from al_old HXR.out)
      refine start_ (n := 11) (S := fun w' => w'.cell? ⟨wr.heap.size, 0, none⟩ = some (.int .i64 ky.kind) ∧ w'.cell? ⟨wr.heap.size, 1, none⟩ = some (.string ky.text) ∧ w'.cell? ⟨w.heap.size, 4, none⟩ = some (.slice a1 ts.length c1)) (ds := []) (lb 11 0) (by kernel_rfl) rfl rfl ⟨cell_blk HC.out 0 rfl, cell_blk HC.out 1 rfl, cell_blk HXC.out 4 rfl⟩ (fun hHeld => ?_)
      refine pure_ (i := 0) (N := some 44) (v := ?_) (a' := ?_) (lb 11 1) rfl rfl (by kernel_rfl) (fun _ _ _ h => h) (Or.inl ⟨by rfl, ?_⟩) ?_ ?_
      rotate_left
      · intro w'
        go_simp
        with_reducible rfl
      rotate_left
      · simp only [Act.put, nrA, nrB, nrC, i64_w, i32_w]
        rfl
      refine pure_ (i := 3) (N := some 47) (v := ?_) (a' := ?_) (lb 11 9) rfl rfl (by kernel_rfl) (fun _ _ _ h => h) (Or.inl ⟨by rfl, ?_⟩) ?_ ?_
      rotate_left
      · intro w'
        go_simp
        with_reducible rfl
      rotate_left
      · simp only [Act.put, nrA, nrB, nrC, i64_w, i32_w]
        rfl
      refine pure_ (i := 5) (N := some 49) (v := ?_) (a' := ?_) (lb 11 41) rfl rfl (by kernel_rfl) (fun _ _ _ h => h) (Or.inl ⟨by rfl, ?_⟩) ?_ ?_
      rotate_left
      · intro w'
        go_simp
        with_reducible rfl
      rotate_left
      · simp only [Act.put, nrA, nrB, nrC, i64_w, i32_w]
        rfl
      refine take_ (i := 1) (N := some 45) (v := ?_) (a' := ?_) (lb 11 43) rfl rfl (by kernel_rfl) (fun _ _ _ h => h) (Or.inl ⟨by rfl, ?_⟩) hHeld ?_ ?_
      rotate_left
      · rintro w' ⟨s0, s1, s2⟩
        go_simp
        with_reducible rfl
      rotate_left
      · simp only [Act.put, nrA, nrB, nrC, i64_w, i32_w]
        rfl
      refine take_ (i := 4) (N := some 48) (v := ?_) (a' := ?_) (lb 11 59) rfl rfl (by kernel_rfl) (fun _ _ _ h => h) (Or.inl ⟨by rfl, ?_⟩) hHeld ?_ ?_
      rotate_left
      · rintro w' ⟨s0, s1, s2⟩
        go_simp
        with_reducible rfl
      rotate_left
      · simp only [Act.put, nrA, nrB, nrC, i64_w, i32_w]
        rfl
      refine one_ (i := 2) (N := some 46) (lb 11 63) rfl rfl (by kernel_rfl) (by decide) (fun K hK => ?_)
      refine goes_ Tryz.func81 (by kernel_rfl) rfl #[.agg #[.int .i64 ky.kind, .string ky.text]] (by rfl) rfl rfl (by simp only [List.map_toArray, List.map_cons, List.map_nil]; rfl) ?_
      with_reducible refine (key_any ky _).mono ?_
      rintro e w1 ⟨rfl, hg1⟩
      refine ⟨_, rfl, ?_⟩
      have HG1 := Lib.hid hg1
      have HC1 := Lib.hid (bl_heap hg1.below HC.out)
      have HX1 := Lib.hid (bl_heap hg1.below HXC.out)
      clear hg1
      refine hK.out _ _ ⟨cell_blk HC1.out 0 rfl, cell_blk HC1.out 1 rfl, cell_blk HX1.out 4 rfl⟩ (fun hHeld => ?_)
      clear hK K
      refine norm_ (a' := ?_) ?_ ?_
      rotate_left
      · show Act.put _ (some 46) _ = _
        simp only [Act.put, nrA, nrB, nrC, i64_w, i32_w]
        rfl
      refine one_ (i := 6) (N := some 50) (lb 11 127) rfl rfl (by kernel_rfl) (by decide) (fun K hK => ?_)
      refine goes_ Tryz.func79 (by kernel_rfl) rfl #[.slice a1 ts.length c1, .int .i64 k] (by rfl) rfl rfl (by simp only [List.map_toArray, List.map_cons, List.map_nil]; rfl) ?_
      with_reducible refine (HAk.out _ ((mle_drew (mle_alloc HM1.out _)).trans HG1.out.mle)).mono ?_
      rintro e w2 ⟨tv, rfl, hrt, hbl⟩
      refine ⟨_, rfl, ?_⟩
      obtain ⟨Ty, y, rfl⟩ := hrt.shape
      have HRT := Lib.hid hrt
      have HBL := Lib.hid hbl
      have HC2 := Lib.hid (bl_heap hbl HC1.out)
      have HX2 := Lib.hid (bl_heap hbl HX1.out)
      clear hrt hbl
      refine hK.out _ _ ⟨cell_blk HC2.out 0 rfl, cell_blk HC2.out 1 rfl, cell_blk HX2.out 4 rfl⟩ (fun hHeld => ?_)
      clear hK K
      refine norm_ (a' := ?_) ?_ ?_
      rotate_left
      · show Act.put _ (some 50) _ = _
        simp only [Act.put, nrA, nrB, nrC, i64_w, i32_w]
        rfl
      refine one_ (i := 7) (N := some 51) (lb 11 255) rfl rfl (by kernel_rfl) (by decide) (fun K hK => ?_)
      refine goes_ Tryz.func80 (by kernel_rfl) rfl #[(akOf ky).v, .iface Ty y] (by rfl) rfl rfl (by simp only [List.map_toArray, List.map_cons, List.map_nil]; rfl) ?_
      with_reducible refine (nsp_any _ _ _ _).mono ?_
      rintro e w3 ⟨rfl, rfl⟩
      refine ⟨_, rfl, ?_⟩
      refine hK.out _ _ ⟨cell_blk (al_old HC2.out) 0 rfl, cell_blk (al_old HC2.out) 1 rfl, cell_blk (al_old HX2.out) 4 rfl⟩ (fun hHeld => ?_)
      clear hK K
      refine norm_ (a' := ?_) ?_ ?_
      rotate_left
      · show Act.put _ (some 51) _ = _
        simp only [Act.put, nrA, nrB, nrC, i64_w, i32_w]
        rfl
      refine one_ (i := 8) (N := some 52) (lb 11 511) rfl rfl (by kernel_rfl) (by decide) (fun K hK => ?_)
      refine value_ (w1 := ?_) (v := ?_) (by rfl) rfl ?_ ?_
      rotate_left 2
      · go_simp
        constructor
        · rfl
        · rfl
      refine hK.out _ _ ⟨cell_blk (al_old (al_old HC2.out)) 0 rfl, cell_blk (al_old (al_old HC2.out)) 1 rfl, cell_blk (al_old (al_old HX2.out)) 4 rfl⟩ (fun hHeld => ?_)
      clear hK K
      refine norm_ (a' := ?_) ?_ ?_
      rotate_left
      · show Act.put _ (some 52) _ = _
        simp only [Act.put, nrA, nrB, nrC, i64_w, i32_w]
        rfl
      refine one_ (i := 9) (N := some 53) (lb 11 1023) rfl rfl (by kernel_rfl) (by decide) (fun K hK => ?_)
      refine step_snoc em_ESP rfl _ _ _ rfl rfl _ _ rfl (y := (akOf ky, L[k])) (l := (ks.zip L).take k) (B := W.heap.size) (m := m0)  ⟨((((((HOWN.out.alloc em_ESP _).drew em_ESP).bl em_ESP HG1.out.below).bl em_ESP HBL.out).alloc em_ESP _).alloc em_ESP _), lo_m0 _, cells_new2 _ _ _ _, rfl, by simp [Value.oneCell'], ⟨w1.heap.size, esp_new2 HRT.out HBL.out.size, by have h1 := HG1.out.size; have h2 := HBWR.out.size; simp at h1; omega, fun k' e => by have h1 := (HOWN.out.lt k' e).2; have h2 := HG1.out.size; simp at h2; omega⟩, ⟨8, sl98, by have := HZL.out; have := HN.out; simp; omega⟩, by have := HZL.out; have := HN.out; simp [maxLen]; omega, by have h1 := HG1.out.size; have h2 := HBWR.out.size; have h3 := HBL.out.size; simp at h1 ⊢; omega⟩ ?_
      intro g' cap w4 hown4 hg4 hv4 hgg
      have HC4 := Lib.hid (grown_heap hg4 (al_old (al_old HC2.out)) (fun k' e => by have := (HOWN.out.lt k' e).2; omega))
      have HX4 := Lib.hid (grown_heap hg4 (al_old (al_old HX2.out)) (fun k' e => by have := hv4 k' e; have := HSW.out; omega))
      refine hK.out _ _ ⟨cell_blk HC4.out 0 rfl, cell_blk HC4.out 1 rfl, cell_blk HX4.out 4 rfl⟩ (fun hHeld => ?_)
      clear hK K
      refine norm_ (a' := ?_) ?_ ?_
      rotate_left
      · show Act.put _ (some 53) _ = _
        simp only [Act.put, nrA, nrB, nrC, i64_w, i32_w]
        rfl
      refine pure_ (i := 10) (N := some 3) (v := ?_) (a' := ?_) (lb 11 2047) rfl rfl (by kernel_rfl) (fun _ _ _ h => h) (Or.inl ⟨by rfl, ?_⟩) ?_ ?_
      rotate_left
      · intro w'
        go_simp
        with_reducible rfl
      rotate_left
      · simp only [Act.put, nrA, nrB, nrC, i64_w, i32_w]
        rfl
      refine done_ (by kernel_rfl) ?_
      have HOWN4 := Lib.hid hown4
      have HBL4 := Lib.hid (bl_grown (bl_alloc (bl_alloc (bl_trans (bl_trans (bl_alloc HBWR.out _).drew HG1.out.below) HBL.out) _) _) hg4 hv4)
      clear hown4 hg4 hv4 hgg
      go_wp2
      go_roundw
      case rel =>
        refine ⟨k + 1, by omega, by go_num, ?_, HBL4.out⟩
        have ho := HOWN4.out
        have ek : (ks.zip L).take (k + 1) = (ks.zip L).take k ++ [(akOf ky, L[k])] := by
          have h1 := HLL.out
          rw [List.take_succ_eq_append_getElem (by simp; omega), HKY.out]; simp
        rw [← ek, HZL.out] at ho
        have e9 : min k (min ks.length L.length) = k := by have := HLL.out; omega
        rw [e9]
        exact ho
      case measure => simp [intOf]; omega
    · obtain rfl : k = ks.length := by omega
      have HXR := Lib.hid (bl_heap hI.out.2 HX0.out)
      have HBWR := Lib.hid hI.out.2
      have HOWN := Lib.hid (show Own ESP m0 100 1 W.heap.size wr _ (ks.zip L) by
        have h := hI.out.1
        rw [List.take_of_length_le (by have := HLL.out; simp; omega)] at h; exact h)
      have HAP := Lib.hid (zip_apart HLL.out.symm HD.out)
      have HLEN := Lib.hid (show (ks.zip L).length < 1000000 by have := HN.out; simp; omega)
      clear hI
      obtain ⟨x0, x1, x2, x3, x4, x5⟩ := cells6 HXR.out
      have hbo := lt_blk HXR.out
      have hd2 : decide ((n2 : Int) < 2) = false := by rw [HN2.out]; rfl
      have hd3 : decide (n2 < 2) = false := by rw [HN2.out]; rfl
      have HMR := Lib.hid (HM0.out.trans (mle_below HBWR.out))
      go_wp2
      clear x0 x1 x2 x3 x4 x5
      refine start_ (n := 11) (S := fun w' => w'.cell? ⟨w.heap.size, 5, none⟩ = some (.slice a2 n2 c2)) (ds := []) (lb 11 0) (by kernel_rfl) rfl rfl (cell_blk HXR.out 5 rfl) (fun hHeld => ?_)
      refine pure_ (i := 0) (N := some 62) (v := ?_) (a' := ?_) (lb 11 1) rfl rfl (by kernel_rfl) (fun _ _ _ h => h) (Or.inl ⟨by rfl, ?_⟩) ?_ ?_
      rotate_left
      · intro w'
        go_simp
        with_reducible rfl
      rotate_left
      · simp only [Act.put, nrA, nrB, nrC, i64_w, i32_w]
        rfl
      refine pure_ (i := 1) (N := some 63) (v := ?_) (a' := ?_) (lb 11 3) rfl rfl (by kernel_rfl) (fun _ _ _ h => h) (Or.inl ⟨by rfl, ?_⟩) ?_ ?_
      rotate_left
      · intro w'
        go_simp
        with_reducible rfl
      rotate_left
      · simp only [Act.put, nrA, nrB, nrC, i64_w, i32_w]
        rfl
      refine pure_ (i := 4) (N := some 66) (v := ?_) (a' := ?_) (lb 11 19) rfl rfl (by kernel_rfl) (fun _ _ _ h => h) (Or.inl ⟨by rfl, ?_⟩) ?_ ?_
      rotate_left
      · intro w'
        go_simp
        with_reducible rfl
      rotate_left
      · simp only [Act.put, nrA, nrB, nrC, i64_w, i32_w]
        rfl
      refine take_ (i := 2) (N := some 64) (v := ?_) (a' := ?_) (lb 11 23) rfl rfl (by kernel_rfl) (fun _ _ _ h => h) (Or.inl ⟨by rfl, ?_⟩) hHeld ?_ ?_
      rotate_left
      · intro w' s0
        go_simp
        with_reducible rfl
      rotate_left
      · simp only [Act.put, nrA, nrB, nrC, i64_w, i32_w]
        rfl
      refine take_ (i := 5) (N := some 67) (v := ?_) (a' := ?_) (lb 11 55) rfl rfl (by kernel_rfl) (fun _ _ _ h => h) (Or.inl ⟨by rfl, ?_⟩) hHeld ?_ ?_
      rotate_left
      · intro w' s0
        go_simp
        with_reducible rfl
      rotate_left
      · simp only [Act.put, nrA, nrB, nrC, i64_w, i32_w]
        rfl
      refine one_ (i := 3) (N := some 65) (lb 11 63) rfl rfl (by kernel_rfl) (by decide) (fun K hK => ?_)
      refine goes_ Tryz.func79 (by kernel_rfl) rfl #[.slice a2 n2 c2, .int .i64 0] (by rfl) rfl rfl (by simp only [List.map_toArray, List.map_cons, List.map_nil]; rfl) ?_
      with_reducible refine (HA1.out _ (mle_drew HMR.out)).mono ?_
      rintro e w6 ⟨v1, rfl, hrt, hbl⟩
      refine ⟨_, rfl, ?_⟩
      obtain ⟨T1, y1, rfl⟩ := hrt.shape
      have HRT1 := Lib.hid hrt
      have HBL1 := Lib.hid hbl
      have HX6 := Lib.hid (bl_heap hbl HXR.out)
      clear hrt hbl
      refine hK.out _ _ (cell_blk HX6.out 5 rfl) (fun hHeld => ?_)
      clear hK K
      refine norm_ (a' := ?_) ?_ ?_
      rotate_left
      · show Act.put _ (some 65) _ = _
        simp only [Act.put, nrA, nrB, nrC, i64_w, i32_w]
        rfl
      refine one_ (i := 6) (N := some 68) (lb 11 127) rfl rfl (by kernel_rfl) (by decide) (fun K hK => ?_)
      refine goes_ Tryz.func79 (by kernel_rfl) rfl #[.slice a2 n2 c2, .int .i64 1] (by rfl) rfl rfl (by simp only [List.map_toArray, List.map_cons, List.map_nil]; rfl) ?_
      with_reducible refine (HA2.out _ ((mle_drew HMR.out).trans (mle_below HBL1.out))).mono ?_
      rintro e w7 ⟨v2, rfl, hrt, hbl⟩
      refine ⟨_, rfl, ?_⟩
      obtain ⟨T2, y2, rfl⟩ := hrt.shape
      have HRT2 := Lib.hid hrt
      have HBL2 := Lib.hid hbl
      have HX7 := Lib.hid (bl_heap hbl HX6.out)
      clear hrt hbl
      refine hK.out _ _ (cell_blk HX7.out 5 rfl) (fun hHeld => ?_)
      clear hK K
      refine norm_ (a' := ?_) ?_ ?_
      rotate_left
      · show Act.put _ (some 68) _ = _
        simp only [Act.put, nrA, nrB, nrC, i64_w, i32_w]
        rfl
      refine one_ (i := 7) (N := some 69) (lb 11 255) rfl rfl (by kernel_rfl) (by decide) (fun K hK => ?_)
      refine goes_ Tryz.func83 (by kernel_rfl) rfl #[.iface T1 y1, .iface T2 y2] (by rfl) rfl rfl (by simp only [List.map_toArray, List.map_cons, List.map_nil]; rfl) ?_
      with_reducible refine (ndp_any _ _ _ _ _).mono ?_
      rintro e w8 ⟨rfl, rfl⟩
      refine ⟨_, rfl, ?_⟩
      refine hK.out _ _ (cell_blk (al_old HX7.out) 5 rfl) (fun hHeld => ?_)
      clear hK K
      refine norm_ (a' := ?_) ?_ ?_
      rotate_left
      · show Act.put _ (some 69) _ = _
        simp only [Act.put, nrA, nrB, nrC, i64_w, i32_w]
        rfl
      refine one_ (i := 8) (N := some 70) (lb 11 511) rfl rfl (by kernel_rfl) (by decide) (fun K hK => ?_)
      refine goes_ Tryz.func82 (by kernel_rfl) rfl #[u3, .pointer (some ⟨w7.heap.size, 0, none⟩)] (by rfl) rfl rfl (by simp only [List.map_toArray, List.map_cons, List.map_nil]; rfl) ?_
      with_reducible refine (newObject_any (m := m0) (B := W.heap.size) (m0_le _) (lo_m0 _) ((((HOWN.out.drew em_ESP).bl em_ESP HBL1.out).bl em_ESP HBL2.out).alloc em_ESP _) HAP.out HLEN.out).mono ?_
      rintro e w5 ⟨bo, l', rfl, hb1, hb2, hpm, hso, hown5, hg5⟩
      refine ⟨_, rfl, ?_⟩
      have HX5 := Lib.hid (grown_heap hg5 (al_old HX7.out) (fun k e => by have := (HOWN.out.lt k e).1; have := HSW.out; omega))
      refine hK.out _ _ (cell_blk HX5.out 5 rfl) (fun hHeld => ?_)
      clear hK K
      refine norm_ (a' := ?_) ?_ ?_
      rotate_left
      · show Act.put _ (some 70) _ = _
        simp only [Act.put, nrA, nrB, nrC, i64_w, i32_w]
        rfl
      refine pure_ (i := 9) (N := some 71) (v := ?_) (a' := ?_) (lb 11 1023) rfl rfl (by kernel_rfl) (fun _ _ _ h => h) (Or.inl ⟨by rfl, ?_⟩) ?_ ?_
      rotate_left
      · intro w'
        go_simp
        with_reducible rfl
      rotate_left
      · simp only [Act.put, nrA, nrB, nrC, i64_w, i32_w]
        rfl
      refine pure_ (i := 10) (N := some 2) (v := ?_) (a' := ?_) (lb 11 2047) rfl rfl (by kernel_rfl) (fun _ _ _ h => h) (Or.inl ⟨by rfl, ?_⟩) ?_ ?_
      rotate_left
      · intro w'
        go_simp
        with_reducible rfl
      rotate_left
      · simp only [Act.put, nrA, nrB, nrC, i64_w, i32_w]
        rfl
      refine done_ (by kernel_rfl) ?_
      go_wp2
      go_ret
      have el : l' = objP ks L := srtP_of HAP.out hpm hso
      have hs := HSW.out
      have hs2 := HBWR.out.size
      have hs6 := HBL1.out.size
      have hs7 := HBL2.out.size
      simp only [World.size_drew] at hs6
      have hq := grown_heap hg5 (al_new (w := w7) (o := .cells #[.iface T1 y1, .iface T2 y2] 107) rfl) (fun k e => by have := (HOWN.out.lt k e).2; omega)
      have k7 : ∀ k, wr.heap.size ≤ k → k < w7.heap.size → w5.heap[k]? = w7.heap[k]? := fun k h1 h2 => by
        rw [hg5.block k (by simp; omega) (fun e => by have := (HOWN.out.lt k e.symm).2; omega), Below.heap_alloc _ _ k h2]
      have hr1 := HRT1.out.mono (fr_deep (B := W.heap.size) (w' := w5) (r' := none) (lo_m0 _) (by simp; omega) (fun k e => by cases e) (fun k h1 h2 _ => by simp at h1; rw [k7 k h1 (by omega), HBL2.out.block k h2]) (.inl rfl))
      have hr2 := HRT2.out.mono (fr_deep (B := W.heap.size) (w' := w5) (r' := none) (lo_m0 _) (by omega) (fun k e => by cases e) (fun k h1 h2 _ => k7 k (by omega) h2) (.inl rfl))
      have ho := (hown5.objectD hso (by simp at hb1; omega) hb2 (by omega) hq hr1 hr2).mono (fr_up (B := w.heap.size) (by omega) (Below.refl _ w5))
      rw [el] at ho
      exact ⟨_, rfl, ho, bl_grown (bl_alloc (bl_trans (bl_trans (bl_trans HB0.out HBWR.out).drew HBL1.out) HBL2.out) _) hg5 (fun k e => by have := (HOWN.out.lt k e).1; omega)⟩

theorem rowK_at {m : Mem} {a : Option Addr} {ks : List Ky} {aks : List AK} (e : ks = aks.map kyOf) (h : RowK m a ks) (k : Nat) (hk : k < aks.length) : ∃ b off, a = some ⟨b, off, none⟩ ∧ m ⟨b, off + k * 2, none⟩ = some (.int .i64 (kyOf aks[k]).kind) ∧ m ⟨b, off + k * 2 + 1, none⟩ = some (.string (kyOf aks[k]).text) := by
  subst e
  have := h.at (i := k) (by simpa using hk)
  simpa using this
theorem built_step {t : IT} (IH : Hid (∀ k, k ∈ t.kids ∨ k ∈ t.more → BuOk k)) : BuOk t := by
  intro m kd nm tx ak a1 a2 nk ck n1 c1 n2 c2 w hv hb hw hm
  obtain ⟨rfl, rfl, rfl, rfl, rfl, rfl, lk, l1, l2, rk, r1, r2⟩ := hv.open
  have hk := bt_kind hb
  rw [toS_mk] at hb hk ⊢
  simp only [ST.kind] at hk
  have hwl := WI_lens t
  have hwk : ∀ k ∈ t.kids, WI k ≤ 100000 := fun k h => Nat.le_trans (WI_kid h) hw
  have hwm : ∀ k ∈ t.more, WI k ≤ 100000 := fun k h => Nat.le_trans (WI_more h) hw
  have IK := Lib.hid (fun k h => IH.out k (.inl h))
  by_cases h4 : t.kind ≤ 4
  · obtain ⟨e1, e2, e3⟩ := bt_1 hb hk.1 h4
    rw [e1, e2, e3]
    have : t.kind = 1 ∨ t.kind = 2 ∨ t.kind = 3 ∨ t.kind = 4 := by omega
    rcases this with h | h | h | h <;> rw [h, nrm_o (by decide) (by decide)]
    · exact bu_flat1 w
    · exact bu_flat2 w
    · exact bu_flat3 w
    · exact bu_flat4 w
  · have : t.kind = 5 ∨ t.kind = 6 ∨ t.kind = 7 ∨ t.kind = 8 := by omega
    rcases this with h | h | h | h
    · rw [h] at hb ⊢
      obtain ⟨e1, b1, b2, b3⟩ := bt_5 hb
      have hbk : ∀ k ∈ t.kids, BT (toS k) := fun k hk => b1 _ (List.mem_map_of_mem hk)
      rw [e1, nrm_o (by decide) (by decide), List.map_map, List.map_map]
      match hmr : t.more, b2 with
      | [], _ => exact bu_arr0 w IK r1 l1 hbk hwk (by omega) hm
      | [d], _ =>
        rw [hmr] at r2 l2
        exact bu_arr1 w IK r1 l1 hbk hwk (by omega) (Lib.hid (IH.out d (.inr (by rw [hmr]; simp)))) r2 l2 (b3 _ (by rw [hmr]; simp)) (hwm d (by rw [hmr]; simp)) hm
      | _ :: _ :: _, b2 => simp at b2
    · rw [h] at hb ⊢
      obtain ⟨aks, e1, b1, b2, b3, b4, b5⟩ := bt_6 hb
      have hkl : t.keys.length = aks.length := by rw [e1]; simp
      have hbk : ∀ k ∈ t.kids, BT (toS k) := fun k hk => b3 _ (List.mem_map_of_mem hk)
      have hL : ((t.kids.map toS).map nrm).length = aks.length := by simp at b1 ⊢; omega
      have hat : ∀ k (h : k < aks.length), ∃ h2 : k < ((t.kids.map toS).map nrm).length, ∀ W : World, MLe m W.cell? → Calls Tryz.prog 79 #[.slice a1 t.kids.length c1, .int .i64 k] W (BuP ((t.kids.map toS).map nrm)[k] W) := fun k h => by
        have hk2 : k < t.kids.length := by simp at b1; omega
        refine ⟨by omega, fun W hW => ?_⟩
        simp only [List.getElem_map]
        exact at_some r1 l1 hk2 (Lib.hid (IK.out _ (List.getElem_mem hk2))) (hbk _ (List.getElem_mem hk2)) (hwk _ (List.getElem_mem hk2)) hW
      rw [e1, nrm_6, show (aks.map kyOf).length = aks.length by simp]
      have lk' : lenOk aks.length ck := by rw [← hkl]; exact lk
      match hmr : t.more, b4 with
      | [], _ =>
        rw [hmr] at r2 l2
        exact bu_obj0 w rfl lk' (fun k h => rowK_at e1 rk k h) hL b2 hat (by omega) hm
      | [d1, d2], _ =>
        rw [hmr] at r2 l2
        refine bu_obj2 w rfl lk' (fun k h => rowK_at e1 rk k h) hL b2 hat (by omega) (fun W hW => ?_) (fun W hW => ?_) hm
        · exact at_some (w := W) (ts := [d1, d2]) (i := 0) r2 l2 (by simp) (Lib.hid (IH.out d1 (.inr (by rw [hmr]; simp)))) (b5 _ (by rw [hmr]; simp)) (hwm d1 (by rw [hmr]; simp)) hW
        · exact at_some (w := W) (ts := [d1, d2]) (i := 1) r2 l2 (by simp) (Lib.hid (IH.out d2 (.inr (by rw [hmr]; simp)))) (b5 _ (by rw [hmr]; simp)) (hwm d2 (by rw [hmr]; simp)) hW
      | [_], b4 => simp at b4
      | _ :: _ :: _ :: _, b4 => simp at b4
    · rw [h] at hb ⊢
      obtain ⟨e1, ⟨x, e2, b2⟩, e3⟩ := bt_7 hb
      obtain ⟨k, hk1, rfl⟩ : ∃ k, t.kids = [k] ∧ toS k = x := by
        match hkk : t.kids, e2 with
        | [k], e2 => simp at e2; exact ⟨k, rfl, e2⟩
        | [], e2 => simp at e2
        | _ :: _ :: _, e2 => simp at e2
      rw [hk1] at r1 l1
      rw [e1, e3, hk1, nrm_o (by decide) (by decide)]
      exact bu_set w (Lib.hid (IK.out k (by rw [hk1]; simp))) r1 l1 b2 (hwk k (by rw [hk1]; simp)) hm
    · rw [h] at hb ⊢
      obtain ⟨e1, b1, e3⟩ := bt_8 hb
      rw [e1, e3, nrm_8, List.map_map]
      exact bu_any w IK r1 l1 (fun k hk => b1 _ (List.mem_map_of_mem hk)) hwk (by omega) hm
theorem built_n (n : Nat) : ∀ t, SizeOf.sizeOf t < n → BuOk t := by
  induction n with
  | zero => intro t h; exact absurd h (Nat.not_lt_zero _)
  | succ n ih => exact fun t hn => built_step (Lib.hid fun k hk => ih k (by rcases hk with h | h; exact Nat.lt_of_lt_of_le (IT.lt_kid' h) (Nat.le_of_lt_succ hn); exact Nat.lt_of_lt_of_le (IT.lt_more' h) (Nat.le_of_lt_succ hn)))
theorem built_any (t : IT) : BuOk t := built_n _ t (Nat.lt_succ_self _)
end Go.Proofs.YtaglgokeejjagaaGreat
