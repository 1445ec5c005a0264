/- 'built': types of the package out of plain data. -/
import Derived.Test.YtaglgokeejjagaaGreatBuiA
import Derived.Test.YtaglgokeejjagaaGreatWorks
import Derived.Test.YtaglgokeejjagaaGreatWLast
namespace Go.Proofs.YtaglgokeejjagaaGreat
set_option linter.unusedVariables false
set_option linter.unusedSimpArgs false
open Go.RowKit Go.Sort Go.Proofs.YtaglgokeejjagaaGreatW.PrintLast

theorem fr_up {B B1 : Nat} {w w' : World} (hB : B ≤ B1) (h : Below w.heap.size w w') : MLe (fr m0 B1 w none) (fr m0 B w' none) :=
  fr_deep (lo_m0 _) hB (fun k e => by cases e) (fun k _ h2 _ => h.block k h2) (.inl rfl)
theorem fr_cell {B b i : Nat} {w : World} {c : Array Value} {T : TypeId} {v : Value} (hB : B ≤ b) (h : w.heap[b]? = some (.cells c T (0, 0))) (hi : c[i]? = some v) : fr m0 B w none ⟨b, i, none⟩ = some v := by
  unfold fr
  rw [if_pos hB, if_neg (by simp)]
  exact ucell_blk h i hi
theorem fr_two {B B1 : Nat} {w2 w3 : World} (h1 : B ≤ B1) (h2 : B ≤ w2.heap.size) (hb : Below w2.heap.size w2 w3) : MLe (fr (fr m0 B1 w2 none) w2.heap.size w3 none) (fr m0 B w3 none) := fun a x h => by
  unfold fr at h
  split at h
  · rw [if_neg (by simp)] at h
    unfold fr
    rw [if_pos (by omega), if_neg (by simp)]
    exact h
  · exact fr_up h1 hb _ _ h
theorem mk6 (t : IT) : t = .mk t.kind t.name t.text t.keys t.kids t.more := by cases t; rfl
theorem toS_mk (t : IT) : toS t = .mk t.kind t.keys (t.kids.map toS) (t.more.map toS) := by cases t; rw [toS]; rfl
theorem bt_1 {k : Int} {ks : List Ky} {kids more : List ST} (h : BT (.mk k ks kids more)) (h1 : 1 ≤ k) (h4 : k ≤ 4) : ks = [] ∧ kids = [] ∧ more = [] := by
  generalize hs : ST.mk k ks kids more = s at h
  cases h <;> cases hs <;> first | exact ⟨rfl, rfl, rfl⟩ | (exfalso; omega)
theorem bt_5 {ks : List Ky} {kids more : List ST} (h : BT (.mk 5 ks kids more)) : ks = [] ∧ (∀ k ∈ kids, BT k) ∧ more.length ≤ 1 ∧ ∀ k ∈ more, BT k := by
  cases h with | arr a b c => exact ⟨rfl, a, b, c⟩
theorem bt_6 {ks : List Ky} {kids more : List ST} (h : BT (.mk 6 ks kids more)) : ∃ aks : List AK, ks = aks.map kyOf ∧ aks.length = kids.length ∧ aks.Nodup ∧ (∀ k ∈ kids, BT k) ∧ (more.length = 0 ∨ more.length = 2) ∧ ∀ k ∈ more, BT k := by
  generalize hs : ST.mk 6 ks kids more = s at h
  cases h with
  | obj a b c d e => injection hs with _ h2 h3 h4; subst h2 h3 h4; exact ⟨_, rfl, a, b, c, d, e⟩
  | _ => injection hs with h1; exact absurd h1 (by decide)
theorem bt_7 {ks : List Ky} {kids more : List ST} (h : BT (.mk 7 ks kids more)) : ks = [] ∧ (∃ t, kids = [t] ∧ BT t) ∧ more = [] := by
  cases h with | set a => exact ⟨rfl, ⟨_, rfl, a⟩, rfl⟩
theorem bt_8 {ks : List Ky} {kids more : List ST} (h : BT (.mk 8 ks kids more)) : ks = [] ∧ (∀ k ∈ kids, BT k) ∧ more = [] := by
  cases h with | any a => exact ⟨rfl, a, rfl⟩
theorem bt_kind {s : ST} (h : BT s) : 1 ≤ s.kind ∧ s.kind ≤ 8 := by cases h <;> simp [ST.kind]

set_option maxHeartbeats 2000000 in
set_option maxRecDepth 100000 in
theorem bu_flat1 {nm tx : ByteArray} {ak a1 a2 : Option Addr} {nk ck n1 c1 n2 c2 : Nat} (w : World) : Calls Tryz.prog 46 #[.agg #[.int .i64 1, .string nm, .string tx, .slice ak nk ck, .slice a1 n1 c1, .slice a2 n2 c2]] w (BuP (.mk 1 [] [] []) w) := by
  go_enter Tryz.func46, Tryz.ntmps46
  go_wp2_with (first | (go_at_call 73; refine (new73 _).mono ?_; rintro e w2 ⟨rfl, g1⟩) | go_in)
  go_ret
  exact ⟨_, rfl, .null, (((Gr.refl _).alloc _).trans g1).below⟩
set_option maxHeartbeats 2000000 in
set_option maxRecDepth 100000 in
theorem bu_flat2 {nm tx : ByteArray} {ak a1 a2 : Option Addr} {nk ck n1 c1 n2 c2 : Nat} (w : World) : Calls Tryz.prog 46 #[.agg #[.int .i64 2, .string nm, .string tx, .slice ak nk ck, .slice a1 n1 c1, .slice a2 n2 c2]] w (BuP (.mk 2 [] [] []) w) := by
  go_enter Tryz.func46, Tryz.ntmps46
  go_wp2_with (first | (go_at_call 74; refine (new74 _).mono ?_; rintro e w2 ⟨rfl, g1⟩) | go_in)
  go_ret
  exact ⟨_, rfl, .bool, (((Gr.refl _).alloc _).trans g1).below⟩
set_option maxHeartbeats 2000000 in
set_option maxRecDepth 100000 in
theorem bu_flat3 {nm tx : ByteArray} {ak a1 a2 : Option Addr} {nk ck n1 c1 n2 c2 : Nat} (w : World) : Calls Tryz.prog 46 #[.agg #[.int .i64 3, .string nm, .string tx, .slice ak nk ck, .slice a1 n1 c1, .slice a2 n2 c2]] w (BuP (.mk 3 [] [] []) w) := by
  go_enter Tryz.func46, Tryz.ntmps46
  go_wp2_with (first | (go_at_call 75; refine (new75 _).mono ?_; rintro e w2 ⟨rfl, g1⟩) | go_in)
  go_ret
  exact ⟨_, rfl, .num, (((Gr.refl _).alloc _).trans g1).below⟩
set_option maxHeartbeats 2000000 in
set_option maxRecDepth 100000 in
theorem bu_flat4 {nm tx : ByteArray} {ak a1 a2 : Option Addr} {nk ck n1 c1 n2 c2 : Nat} (w : World) : Calls Tryz.prog 46 #[.agg #[.int .i64 4, .string nm, .string tx, .slice ak nk ck, .slice a1 n1 c1, .slice a2 n2 c2]] w (BuP (.mk 4 [] [] []) w) := by
  go_enter Tryz.func46, Tryz.ntmps46
  go_wp2_with (first | (go_at_call 76; refine (new76 _).mono ?_; rintro e w2 ⟨rfl, g1⟩) | go_in)
  go_ret
  exact ⟨_, rfl, .str, (((Gr.refl _).alloc _).trans g1).below⟩

set_option maxHeartbeats 4000000 in
set_option maxRecDepth 100000 in
theorem bu_set {m : Mem} {nm tx : ByteArray} {ak a1 a2 : Option Addr} {nk ck c1 n2 c2 : Nat} {k : IT} (w : World) (IH : Hid (BuOk k)) (hr : RowIT m a1 [k]) (lk : lenOk 1 c1) (hb : BT (toS k)) (hw : WI k ≤ 100000) (hm : MLe m w.cell?) :
    Calls Tryz.prog 46 #[.agg #[.int .i64 7, .string nm, .string tx, .slice ak nk ck, .slice a1 1 c1, .slice a2 n2 c2]] w (BuP (.mk 7 [] [nrm (toS k)] []) w) := by
  have HAT := Lib.hid (fun W hW => at_some (w := W) (ts := [k]) (i := 0) hr lk (by simp) IH hb hw hW)
  have HM := Lib.hid hm
  clear hr lk hb hw hm
  go_enter Tryz.func46, Tryz.ntmps46
  go_wp2_with (first | (go_at_call 79; refine (HAT.out _ (mle_alloc HM.out _)).mono ?_; rintro e w2 ⟨v, rfl, hrt, hbl⟩; obtain ⟨Ty, y, rfl⟩ := hrt.shape; have HRT := Lib.hid hrt; have HBL := Lib.hid hbl; clear hrt hbl) | (go_at_call 84; refine (nset_any _ _ _).mono ?_; rintro e w3 ⟨rfl, rfl⟩))
  go_ret
  have hs2 := HBL.out.size
  simp only [World.size_alloc] at hs2
  refine ⟨_, rfl, ?_, bl_alloc (bl_trans (bl_alloc (Below.refl _ _) _) HBL.out) _⟩
  refine RT.set (fr_cell (by omega) (al_new rfl) rfl) (HRT.out.mono ?_)
  exact fr_up (by simp) ((Below.refl _ _).alloc (Nat.le_refl _) _)

set_option maxHeartbeats 4000000 in
set_option maxRecDepth 100000 in
theorem bu_any {m : Mem} {nm tx : ByteArray} {ak a1 a2 : Option Addr} {nk ck c1 n2 c2 : Nat} {ts : List IT} (w : World) (IH : Hid (∀ t ∈ ts, BuOk t)) (hr : RowIT m a1 ts) (lk : lenOk ts.length c1) (hb : ∀ t ∈ ts, BT (toS t)) (hw : ∀ t ∈ ts, WI t ≤ 100000) (hn : ts.length ≤ 100000) (hm : MLe m w.cell?) :
    Calls Tryz.prog 46 #[.agg #[.int .i64 8, .string nm, .string tx, .slice ak nk ck, .slice a1 ts.length c1, .slice a2 n2 c2]] w (BuP (.mk 8 [] (srtT (ts.map fun t => nrm (toS t))) []) w) := by
  have HALL := Lib.hid (fun W hW => all_any (w := W) IH hr lk hb hw hn hW)
  have HM := Lib.hid hm
  have HN := Lib.hid (show (ts.map fun t => nrm (toS t)).length < 1000000 by simp; omega)
  clear hr lk hb hw hn hm
  generalize (ts.map fun t => nrm (toS t)) = L at HALL HN ⊢
  go_enter Tryz.func46, Tryz.ntmps46
  go_wp2_with (first | (go_at_call 78; refine (HALL.out _ (mle_alloc HM.out _)).mono ?_; rintro e w2 ⟨a, c, xs, rfl, lk, hl, row, hrt, hbl⟩; have HLK := Lib.hid lk; have HLL := Lib.hid hl; have HROW := Lib.hid row; have HRT := Lib.hid hrt; have HBL := Lib.hid hbl; clear lk hl row hrt hbl) | (go_at_call 85; refine (newAny_any HLK.out HLL.out HROW.out HRT.out (fr_leU (fun a x h => by cases h)) HN.out).mono ?_; rintro e w3 ⟨g, rfl, hown, hb3⟩; have HOWN := Lib.hid hown; have HB3 := Lib.hid hb3; clear hown hb3))
  go_ret
  have hs2 := HBL.out.size
  simp only [World.size_alloc] at hs2
  obtain ⟨a', c', ys, e, lok, hyl, row, hrt⟩ := HOWN.out.types
  have hsub := fun B1 (h : w.heap.size ≤ B1) => fr_two h (by omega : w.heap.size ≤ w2.heap.size) HB3.out
  refine ⟨.iface 110 (.slice a' (srtT L).length c'), by rw [← e]; rfl, ?_, bl_trans (bl_trans (bl_alloc (Below.refl _ _) _) HBL.out) HB3.out⟩
  exact RT.any lok hyl (row.mono (hsub _ (by simp))) (fun i h1 h2 => (hrt i h1 h2).mono (hsub _ (by simp)))
end Go.Proofs.YtaglgokeejjagaaGreat
