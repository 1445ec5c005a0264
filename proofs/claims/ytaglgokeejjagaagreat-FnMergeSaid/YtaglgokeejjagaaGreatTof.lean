/- 'TypeOf' of the thin package. -/
import Derived.Test.YtaglgokeejjagaaGreatWorks
import Derived.Test.YtaglgokeejjagaaGreatOwn
import Derived.Test.YtaglgokeejjagaaGreatWLast
/- 'plain' lays a type as plain data: the types without parts, and arrays. -/
namespace Go.Proofs.YtaglgokeejjagaaGreat
set_option linter.unusedVariables false
set_option linter.unusedSimpArgs false
open Go.RowKit Go.Sort Go.Proofs.YtaglgokeejjagaaGreatW.PrintLast

/-- A type with no name and no text. -/
def toI : ST → IT
  | .mk kd ks kids more => .mk kd ⟨#[]⟩ ⟨#[]⟩ ks (kids.map toI) (more.map toI)
termination_by t => SizeOf.sizeOf t
decreasing_by
  · exact ST.lt_kid (by assumption)
  · exact ST.lt_more (by assumption)
theorem toI_eq (kd : Int) (ks : List Ky) (kids more : List ST) : toI (.mk kd ks kids more) = .mk kd ⟨#[]⟩ ⟨#[]⟩ ks (kids.map toI) (more.map toI) := by rw [toI]

def PlP (t : ST) (w : World) (e : Ending) (w' : World) : Prop :=
  ∃ ak nk ck a1 n1 c1 a2 n2 c2, e = .returned (.agg #[.int .i64 t.kind, .string ⟨#[]⟩, .string ⟨#[]⟩, .slice ak nk ck, .slice a1 n1 c1, .slice a2 n2 c2]) ∧ MIT (fr m0 w.heap.size w' none) (itCells t.kind ⟨#[]⟩ ⟨#[]⟩ ak nk ck a1 n1 c1 a2 n2 c2) (toI t) ∧ Below w.heap.size w w'
def PlOk (t : ST) : Prop := ∀ (x : Value) (m : Mem) (w : World), WS t ≤ 1000000000 → RT m x t → MLe m w.cell? → Calls Tryz.prog 44 #[x] w (PlP t w)

theorem len0 : lenOk 0 0 := ⟨Nat.le_refl _, by decide⟩
theorem rowKn (m : Mem) (a : Option Addr) : RowK m a [] := fun h => absurd h (Nat.lt_irrefl _)
theorem rowIT_nil (m : Mem) (a : Option Addr) : RowIT m a [] := ⟨fun _ => [], fun h => absurd h (Nat.lt_irrefl _), fun i h => absurd h (Nat.not_lt_zero _)⟩
theorem mit_flat (m : Mem) (kd : Int) : MIT m (itCells kd ⟨#[]⟩ ⟨#[]⟩ none 0 0 none 0 0 none 0 0) (toI (.mk kd [] [] [])) := by
  rw [toI_eq]
  exact MIT.close (ks := []) (kids := []) (more := []) len0 len0 len0 (rowKn _ _) (rowIT_nil _ _) (rowIT_nil _ _)

theorem WS_kid {kd : Int} {ks : List Ky} {kids more : List ST} {k : ST} (h : k ∈ kids) : WS k ≤ WS (.mk kd ks kids more) := by
  have := le_sum WS h
  rw [WS_eq (.mk kd ks kids more)]; simp only [ST.kids]; omega
theorem WS_more {kd : Int} {ks : List Ky} {kids more : List ST} {k : ST} (h : k ∈ more) : WS k ≤ WS (.mk kd ks kids more) := by
  have := le_sum WS h
  rw [WS_eq (.mk kd ks kids more)]; simp only [ST.more]; omega
theorem WS_lens (kd : Int) (ks : List Ky) (kids more : List ST) : ks.length ≤ WS (.mk kd ks kids more) ∧ kids.length ≤ WS (.mk kd ks kids more) ∧ more.length ≤ WS (.mk kd ks kids more) := by
  have := sum_ge WS WS_pos kids
  have := sum_ge WS WS_pos more
  rw [WS_eq]; simp only [ST.kids, ST.more, ST.keys]; omega
theorem RowX.at {m : Mem} {a : Option Addr} {xs : List Value} (h : RowX m a xs) {i : Nat} (hi : i < xs.length) : ∃ b off, a = some ⟨b, off, none⟩ ∧ m ⟨b, off + i, none⟩ = some xs[i] := by
  obtain ⟨b, off, e, hc⟩ := h (by omega)
  refine ⟨b, off, e, ?_⟩
  have := hc i hi 0 xs[i] (by show [xs.getD i default][0]? = _; rw [getD_eq _ _ hi]; rfl)
  simpa using this
theorem rowIT_one {m : Mem} {b : Nat} {cs : List Value} {t : IT} (h : MIT m cs t) (hc : ∀ j u, cs[j]? = some u → m ⟨b, j, none⟩ = some u) : RowIT m (some ⟨b, 0, none⟩) [t] :=
  ⟨fun _ => cs, fun _ => ⟨b, 0, rfl, fun i hi j u hu => by
    obtain rfl : i = 0 := by simpa using hi
    simpa using hc j u hu⟩, fun i hi => by
    obtain rfl : i = 0 := by simpa using hi
    exact h⟩

theorem mit_mk {m : Mem} {kd : Int} {ks : List Ky} {kids more : List ST} {ak a1 a2 : Option Addr} {nk ck n1 c1 n2 c2 : Nat} (e0 : nk = ks.length) (e1 : n1 = kids.length) (e2 : n2 = more.length) (lk : lenOk nk ck) (l1 : lenOk n1 c1) (l2 : lenOk n2 c2)
    (rk : RowK m ak ks) (r1 : RowIT m a1 (kids.map toI)) (r2 : RowIT m a2 (more.map toI)) : MIT m (itCells kd ⟨#[]⟩ ⟨#[]⟩ ak nk ck a1 n1 c1 a2 n2 c2) (toI (.mk kd ks kids more)) := by
  subst e0 e1 e2
  rw [toI_eq]
  have h1 : (kids.map toI).length = kids.length := by simp
  have h2 : (more.map toI).length = more.length := by simp
  have h := MIT.close (kd := kd) (nm := ⟨#[]⟩) (tx := ⟨#[]⟩) (ks := ks) (kids := kids.map toI) (more := more.map toI) lk (by rw [h1]; exact l1) (by rw [h2]; exact l2) rk r1 r2
  rw [h1, h2] at h
  exact h

set_option maxHeartbeats 2000000 in
set_option maxRecDepth 100000 in
theorem pl_1 {w : World} : Calls Tryz.prog 44 #[.iface 90 (.agg #[])] w (PlP (.mk 1 [] [] []) w) := by
  go_enter Tryz.func44, Tryz.ntmps44
  go_wp2
  refine bodyPost_ret (v := .agg #[.int .i64 1, .string ⟨#[]⟩, .string ⟨#[]⟩, .slice none 0 0, .slice none 0 0, .slice none 0 0]) (by simp [results, Tryz.results44, go_sem]) rfl ⟨_, _, _, _, _, _, _, _, _, rfl, mit_flat _ _, ?_⟩
  repeat (first | exact Below.refl _ _ | refine Below.setCell ?_ (by simp) _ | refine Below.alloc ?_ (by simp) _)
set_option maxHeartbeats 2000000 in
set_option maxRecDepth 100000 in
theorem pl_2 {w : World} : Calls Tryz.prog 44 #[.iface 91 (.agg #[])] w (PlP (.mk 2 [] [] []) w) := by
  go_enter Tryz.func44, Tryz.ntmps44
  go_wp2
  refine bodyPost_ret (v := .agg #[.int .i64 2, .string ⟨#[]⟩, .string ⟨#[]⟩, .slice none 0 0, .slice none 0 0, .slice none 0 0]) (by simp [results, Tryz.results44, go_sem]) rfl ⟨_, _, _, _, _, _, _, _, _, rfl, mit_flat _ _, ?_⟩
  repeat (first | exact Below.refl _ _ | refine Below.setCell ?_ (by simp) _ | refine Below.alloc ?_ (by simp) _)
set_option maxHeartbeats 2000000 in
set_option maxRecDepth 100000 in
theorem pl_3 {w : World} : Calls Tryz.prog 44 #[.iface 92 (.agg #[])] w (PlP (.mk 3 [] [] []) w) := by
  go_enter Tryz.func44, Tryz.ntmps44
  go_wp2
  refine bodyPost_ret (v := .agg #[.int .i64 3, .string ⟨#[]⟩, .string ⟨#[]⟩, .slice none 0 0, .slice none 0 0, .slice none 0 0]) (by simp [results, Tryz.results44, go_sem]) rfl ⟨_, _, _, _, _, _, _, _, _, rfl, mit_flat _ _, ?_⟩
  repeat (first | exact Below.refl _ _ | refine Below.setCell ?_ (by simp) _ | refine Below.alloc ?_ (by simp) _)
set_option maxHeartbeats 2000000 in
set_option maxRecDepth 100000 in
theorem pl_4 {w : World} : Calls Tryz.prog 44 #[.iface 93 (.agg #[])] w (PlP (.mk 4 [] [] []) w) := by
  go_enter Tryz.func44, Tryz.ntmps44
  go_wp2
  refine bodyPost_ret (v := .agg #[.int .i64 4, .string ⟨#[]⟩, .string ⟨#[]⟩, .slice none 0 0, .slice none 0 0, .slice none 0 0]) (by simp [results, Tryz.results44, go_sem]) rfl ⟨_, _, _, _, _, _, _, _, _, rfl, mit_flat _ _, ?_⟩
  repeat (first | exact Below.refl _ _ | refine Below.setCell ?_ (by simp) _ | refine Below.alloc ?_ (by simp) _)

theorem hnil (T : Nat) (y : Value) : True := trivial
def SelP (x : Value) (w : World) (e : Ending) (w' : World) : Prop := e = .returned x ∧ w' = w
set_option maxHeartbeats 1000000 in
set_option maxRecDepth 100000 in
theorem sel57 {b n c k rb off : Nat} {x : Value} {w : World} (h0 : w.cell? ⟨b, 0, none⟩ = some (.slice (some ⟨rb, off, none⟩) n c)) (hn : n ≤ c) (hc : c ≤ 9223372036854775807) (hk : k < n) (hx : w.cell? ⟨rb, off + k, none⟩ = some x) (hs : x = .nilIface ∨ ∃ T y, x = .iface T y) :
    Calls Tryz.prog 57 #[.pointer (some ⟨b, 0, none⟩), .int .i64 k] w (SelP x w) := by
  rcases hs with rfl | ⟨T, y, rfl⟩
  all_goals
    go_enter Tryz.func57, Tryz.ntmps57
    go_wp2
    go_ret
    exact ⟨rfl, rfl⟩

set_option maxHeartbeats 4000000 in
set_option maxRecDepth 100000 in
theorem pl_arr {m : Mem} {w : World} {b c : Nat} {a : Option Addr} {xs ds : List Value} {kids more : List ST} (IH : Hid (∀ k, k ∈ kids ∨ k ∈ more → PlOk k)) (hw : WS (.mk 5 [] kids more) ≤ 1000000000) (h0 : m ⟨b, 0, none⟩ = some (.slice a kids.length c)) (h1 : m ⟨b, 1, none⟩ = some (ds.headD .nilIface)) (lk : lenOk kids.length c) (hl : xs.length = kids.length)
      (r : RowX m a xs) (e : ∀ i (h1 : i < xs.length) (h2 : i < kids.length), RT m xs[i] kids[i]) (hd : ds.length = more.length) (h2 : more.length ≤ 1) (e2 : ∀ i (h1 : i < ds.length) (h2 : i < more.length), RT m ds[i] more[i]) (hm : MLe m w.cell?) :
    Calls Tryz.prog 44 #[.iface 94 (.pointer (some ⟨b, 0, none⟩))] w (PlP (.mk 5 [] kids more) w) := by
  obtain ⟨l1, l2⟩ := lk
  have HR := Lib.hid r
  have HE := Lib.hid e
  have HE2 := Lib.hid e2
  have HM := Lib.hid hm
  have HL := Lib.hid hl
  have HW := Lib.hid hw
  have HKN := Lib.hid (Nat.le_trans (WS_lens 5 [] kids more).2.1 hw)
  have HC0 := Lib.hid h0
  have HC1 := Lib.hid h1
  have c0 := hm _ _ h0
  have hbw := World.block_lt_of_cell? _ _ c0
  have hbw' : b < w.heap.size := hbw
  clear r e e2 hm hl hw h0 h1 hbw
  go_enter Tryz.func44, Tryz.ntmps44
  go_wp2
  clear c0
  go_loopw [44] (fun i wr => ∃ (k : Nat) (v : Value), k ≤ kids.length ∧ i = .int .i64 k ∧ Hid (
      wr.heap[w.heap.size]? = some (.cells #[.int .i64 0, .string ⟨#[]⟩, .string ⟨#[]⟩, .slice none 0 0, .slice none 0 0, .slice none 0 0] 25 (0, 0)) ∧
      wr.heap[w.heap.size + 1]? = some (.cells #[.int .i64 5, .string ⟨#[]⟩, .string ⟨#[]⟩, .slice none 0 0, v, .slice none 0 0] 25 (0, 0)) ∧
      Own MIT m0 25 6 (w.heap.size + 2) wr v ((kids.take k).map toI) ∧ Below w.heap.size w wr ∧ w.heap.size + 2 ≤ wr.heap.size)) (fun i _ => kids.length - (intOf i).toNat)
  case atStart =>
    refine ⟨0, .slice none 0 0, Nat.zero_le _, rfl, ?_, ?_, Own.nil .., ?_, ?_⟩
    · exact al_old (al_new (by simp))
    · exact al_new (by simp)
    · repeat (first | exact Below.refl _ _ | refine Below.alloc ?_ (by simp; try omega) _)
    · simp
  case round =>
    obtain ⟨k, v, hk, rfl, hI⟩ := hrel
    by_cases hlt : k < kids.length
    · have hm1 := HM.out.trans (mle_below hI.out.2.2.2.1)
      have hkx : k < xs.length := by have := HL.out; omega
      obtain ⟨rb, off, e0, hx0⟩ := HR.out.at hkx
      subst e0
      have HM1 := Lib.hid hm1
      have HXR := Lib.hid (HE.out k hkx hlt)
      have HXC := Lib.hid hx0
      obtain ⟨Tk, yk, hxs⟩ := HXR.out.shape
      have HSH := Lib.hid hxs
      have HSEL := Lib.hid (fun (W : World) (h : MLe m W.cell?) => show Calls Tryz.prog 57 #[.pointer (some ⟨b, 0, none⟩), .int .i64 k] W (SelP (.iface Tk yk) W) from sel57 (h _ _ HC0.out) l1 l2 hlt (by rw [← HSH.out]; exact h _ _ HXC.out) (.inr ⟨_, _, rfl⟩))
      have HIN := Lib.hid (fun (W : World) (h : MLe m W.cell?) => show Calls Tryz.prog 44 #[.iface Tk yk] W (PlP kids[k] W) from IH.out _ (.inl (List.getElem_mem hlt)) _ m W (Nat.le_trans (WS_kid (List.getElem_mem hlt)) HW.out) (by rw [← HSH.out]; exact HXR.out) h)
      have HV := Lib.hid (fun k' (e : v.ownBlock = some k') => (hI.out.2.2.1.lt k' e).2)
      clear hxs hx0 hm1
      go_wp2
      have HB := Lib.hid hI.out.2.1
      refine start_ (n := 10) (S := fun w' => w'.cell? ⟨w.heap.size + 1, 4, none⟩ = some v) (ds := [9]) (lb 10 0) (by kernel_rfl) rfl rfl (cell_blk HB.out 4 rfl) (fun hHeld => ?_)
      refine pure_ (i := 0) (N := some 47) (v := ?_) (a' := ?_) (lb 10 1) rfl rfl (by kernel_rfl) (fun _ _ _ h => h) (Or.inl ⟨by rfl, ?_⟩) ?_ ?_
      rotate_left
      · intro w'
        go_simp
        with_reducible rfl
      rotate_left
      · simp only [Act.put, nrA, nrB, nrC, i64_w, i32_w]
        rfl
      refine pure_ (i := 2) (N := some 49) (v := ?_) (a' := ?_) (lb 10 5) rfl rfl (by kernel_rfl) (fun _ _ _ h => h) (Or.inl ⟨by rfl, ?_⟩) ?_ ?_
      rotate_left
      · intro w'
        go_simp
        with_reducible rfl
      rotate_left
      · simp only [Act.put, nrA, nrB, nrC, i64_w, i32_w]
        rfl
      refine pure_ (i := 3) (N := some 50) (v := ?_) (a' := ?_) (lb 10 13) rfl rfl (by kernel_rfl) (fun _ _ _ h => h) (Or.inl ⟨by rfl, ?_⟩) ?_ ?_
      rotate_left
      · intro w'
        go_simp
        with_reducible rfl
      rotate_left
      · simp only [Act.put, nrA, nrB, nrC, i64_w, i32_w]
        rfl
      refine take_ (i := 1) (N := some 48) (v := ?_) (a' := ?_) (lb 10 15) rfl rfl (by kernel_rfl) (fun _ _ _ h => h) (Or.inl ⟨by rfl, ?_⟩) hHeld ?_ ?_
      rotate_left
      · intro w' s0
        go_simp
        with_reducible rfl
      rotate_left
      · simp only [Act.put, nrA, nrB, nrC, i64_w, i32_w]
        rfl
      refine one_ (i := 4) (N := some 51) (lb 10 31) rfl rfl (by kernel_rfl) (by decide) (fun K hK => ?_)
      refine goes_ Tryz.func57 (by kernel_rfl) rfl #[.pointer (some ⟨b, 0, none⟩), .int .i64 k] (by rfl) rfl rfl (by simp only [List.map_toArray, List.map_cons, List.map_nil]; rfl) ?_
      with_reducible refine (HSEL.out _ (mle_drew HM1.out)).mono ?_
      rintro e w1 ⟨rfl, rfl⟩
      refine ⟨_, rfl, ?_⟩
      refine hK.out _ _ (cell_blk HB.out 4 rfl) (fun hHeld => ?_)
      clear hK K
      refine norm_ (a' := ?_) ?_ ?_
      rotate_left
      · show Act.put _ (some 51) _ = _
        simp only [Act.put, nrA, nrB, nrC, i64_w, i32_w]
        rfl
      refine one_ (i := 5) (N := some 52) (lb 10 63) rfl rfl (by kernel_rfl) (by decide) (fun K hK => ?_)
      refine goes_ Tryz.func44 (by kernel_rfl) rfl #[.iface Tk yk] (by rfl) rfl rfl (by simp only [List.map_toArray, List.map_cons, List.map_nil]; rfl) ?_
      with_reducible refine (HIN.out _ (mle_drew HM1.out)).mono ?_
      rintro e w1 ⟨ak', nk', ck', a1', n1', c1', a2', n2', c2', rfl, hmv, hbl⟩
      refine ⟨_, rfl, ?_⟩
      refine hK.out _ _ (cell_blk (bl_heap hbl HB.out) 4 rfl) (fun hHeld => ?_)
      clear hK K
      refine norm_ (a' := ?_) ?_ ?_
      rotate_left
      · show Act.put _ (some 52) _ = _
        simp only [Act.put, nrA, nrB, nrC, i64_w, i32_w]
        rfl
      refine one_ (i := 6) (N := some 53) (lb 10 127) rfl rfl (by kernel_rfl) (by decide) (fun K hK => ?_)
      refine value_ (w1 := ?_) (v := ?_) (by rfl) rfl ?_ ?_
      rotate_left 2
      · go_simp
        constructor
        · rfl
        · rfl
      refine hK.out _ _ (cell_blk (al_old (bl_heap hbl HB.out)) 4 rfl) (fun hHeld => ?_)
      clear hK K
      refine norm_ (a' := ?_) ?_ ?_
      rotate_left
      · show Act.put _ (some 53) _ = _
        simp only [Act.put, nrA, nrB, nrC, i64_w, i32_w]
        rfl
      refine one_ (i := 7) (N := some 54) (lb 10 255) rfl rfl (by kernel_rfl) (by decide) (fun K hK => ?_)
      refine step_snoc em_IT rfl _ _ _ rfl rfl _ _ rfl (Snoc.call em_IT hI.out.2.2.1 (lo_m0 _) (Below.refl _ _).drew hbl hmv sl23 rfl (by simp [Value.oneCell']) (by have := HKN.out; simp; omega) (by have := HKN.out; simp [maxLen]; omega) hI.out.2.2.2.2) ?_
      intro g' cap w2 hown2 hg2 hv2 hgg
      have HB2 := grown_heap hg2 (al_old (bl_heap hbl HB.out)) (fun k' e => by have := hv2 k' e; omega)
      refine hK.out _ _ (cell_blk HB2 4 rfl) (fun hHeld => ?_)
      clear hK K
      refine norm_ (a' := ?_) ?_ ?_
      rotate_left
      · show Act.put _ (some 54) _ = _
        simp only [Act.put, nrA, nrB, nrC, i64_w, i32_w]
        rfl
      refine pure_ (i := 8) (N := some 55) (v := ?_) (a' := ?_) (lb 10 511) rfl rfl (by kernel_rfl) (fun _ _ _ h => h) (Or.inl ⟨by rfl, ?_⟩) ?_ ?_
      rotate_left
      · intro w'
        go_simp
        with_reducible rfl
      rotate_left
      · simp only [Act.put, nrA, nrB, nrC, i64_w, i32_w]
        rfl
      refine last_ (i := 9) (N := none) (lb 10 1023) rfl rfl (by kernel_rfl) (by decide) (fun K hK => ?_)
      have c3 := cell_blk HB2 4 rfl
      have f3 := froz_blk HB2 4
      refine skip_ (w1 := ?_) (by rfl) rfl ?_ ?_
      rotate_left
      · go_simp
        rfl
      refine hK.out _ _ ?_
      clear hK K
      refine done_ (by kernel_rfl) ?_
      clear c3 f3
      have HS2 := lt_blk HB2
      go_wp2
      go_roundw
      case rel =>
        have el : ((kids.take k).map toI).length = k := by simp; omega
        have ek : (kids.take (k + 1)).map toI = (kids.take k).map toI ++ [toI kids[k]] := by rw [List.take_succ_eq_append_getElem hlt, List.map_append, List.map_cons, List.map_nil]
        rw [el, ← ek] at hown2
        refine ⟨k + 1, _, by omega, by go_num, ?_, set_blk HB2 4 _, hown2.setLow em_IT (show w.heap.size + 1 < w.heap.size + 2 from by omega) _, ?_, ?_⟩
        · exact set_old (grown_heap hg2 (al_old (bl_heap hbl hI.out.1)) (fun k' e => by have := hv2 k' e; omega)) (show w.heap.size ≠ w.heap.size + 1 from by omega)
        · exact (bl_grown (bl_alloc (bl_trans hI.out.2.2.2.1.drew hbl) _) hg2 (fun k' e => by have := hv2 k' e; omega)).setCell (show w.heap.size ≤ w.heap.size + 1 from by omega) _
        · have h1 := hg2.size; have h2 := hbl.size; have h3 := hI.out.2.2.2.2; simp at h1 h2 ⊢; omega
      case measure => simp [intOf]; omega
    · obtain rfl : k = kids.length := by omega
      obtain ⟨hh1, hh2, hown, hb, hsz⟩ := hI.out
      rw [List.take_length] at hown
      have c1 := (HM.out.trans (mle_below hb)) _ _ HC1.out
      obtain ⟨o0, o1, o2, o3, o4, o5⟩ := cells6 hh2
      obtain ⟨r0, r1, r2, r3, r4, r5⟩ := cells6 hh1
      have fr' := froz_blk hh1
      have fo' := froz_blk hh2
      have HBE := Lib.hid hb
      have HH1 := Lib.hid hh1
      have HH2 := Lib.hid hh2
      have HOWN := Lib.hid hown
      have hszz : w.heap.size + 1 < wr.heap.size := by omega
      have hszy : w.heap.size < wr.heap.size := by omega
      clear hh1 hh2 hown hb hI
      have HKL := Lib.hid (show (kids.map toI).length = kids.length by simp)
      obtain ⟨a', c', rfl, lok, row⟩ := HOWN.out.rowIT
      rw [HKL.out] at lok o4
      have ROW := Lib.hid row
      have LOK := Lib.hid lok
      clear lok row
      cases more with
      | nil =>
        obtain rfl : ds = [] := List.eq_nil_of_length_eq_zero hd
        simp only [List.headD_nil] at c1
        go_wp2
        refine bodyPost_ret (v := .agg #[.int .i64 5, .string ⟨#[]⟩, .string ⟨#[]⟩, .slice none 0 0, .slice a' kids.length c', .slice none 0 0]) (by simp [results, Tryz.results44, go_sem, r0, r1, r2, r3, r4, r5, hszy, fr']) rfl ⟨_, _, _, _, _, _, _, _, _, rfl, ?_, ?_⟩
        · refine mit_mk rfl rfl rfl len0 LOK.out len0 (rowKn _ _) (ROW.out.mono (fr_lower (lo_m0 _) (show w.heap.size ≤ w.heap.size + 2 by omega) fun k h1 h2 => ?_)) (rowIT_nil _ _)
          repeat rw [Below.heap_setCell _ _ _ k (show k ≠ w.heap.size from by omega)]
        · have hle : w.heap.size ≤ w.heap.size := Nat.le_refl _
          exact (((((HBE.out.setCell hle _).setCell hle _).setCell hle _).setCell hle _).setCell hle _).setCell hle _
      | cons d rest =>
        have hrest : rest = [] := by simp at h2; exact h2
        subst hrest
        obtain ⟨dv, rfl⟩ : ∃ dv, ds = [dv] := by
          match ds, hd with
          | [x], _ => exact ⟨x, rfl⟩
        simp only [List.headD_cons] at c1
        have hrt : RT m dv d := HE2.out 0 (by simp) (by simp)
        obtain ⟨Td, yd, rfl⟩ := hrt.shape
        have HRT := Lib.hid hrt
        have HIN := Lib.hid (fun (W : World) (h : MLe m W.cell?) => show Calls Tryz.prog 44 #[.iface Td yd] W (PlP d W) from IH.out _ (.inr (by simp)) _ m W (Nat.le_trans (WS_more (by simp)) HW.out) HRT.out h)
        have HMR := Lib.hid (HM.out.trans (mle_below HBE.out))
        have hnn := hnil Td yd
        clear hrt
        go_wp2_with (first | (go_at_call 44; refine (HIN.out _ HMR.out).mono ?_; rintro e w3 ⟨ak', nk', ck', a1', n1', c1', a2', n2', c2', rfl, hmv, hbl⟩; have hX3 := bl_heap hbl HH1.out; have hO3 := bl_heap hbl HH2.out; obtain ⟨q0, q1, q2, q3, q4, q5⟩ := cells6 hO3; have fq := froz_blk hO3; obtain ⟨p0, p1, p2, p3, p4, p5⟩ := cells6 hX3; have fp := froz_blk hX3; have HMV := Lib.hid hmv; have HBL := Lib.hid hbl; have hs3 := lt_blk hO3; have hs2 := lt_blk hX3; clear hX3 hO3 hmv hbl) | go_in)
        refine bodyPost_ret (v := .agg #[.int .i64 5, .string ⟨#[]⟩, .string ⟨#[]⟩, .slice none 0 0, .slice a' kids.length c', .slice (some ⟨w3.heap.size, 0, none⟩) 1 1]) (by simp [results, Tryz.results44, go_sem, p0, p1, p2, p3, p4, p5, hs2, fp]) rfl ⟨_, _, _, _, _, _, _, _, _, rfl, ?_, ?_⟩
        · have hs := HBL.out.size
          have hblk : ∀ k, w.heap.size + 2 ≤ k → k < w3.heap.size → ∀ (u0 u1 u2 u3 u4 u5 u6 : Value) (o : Obj), (((((((((w3.setCell ⟨w.heap.size + 1, 5, none⟩ u0).setCell ⟨w.heap.size, 0, none⟩ u1).setCell ⟨w.heap.size, 1, none⟩ u2).setCell ⟨w.heap.size, 2, none⟩ u3).setCell ⟨w.heap.size, 3, none⟩ u4).setCell ⟨w.heap.size, 4, none⟩ u5).setCell ⟨w.heap.size, 5, none⟩ u6).alloc o).heap[k]?) = w3.heap[k]? := fun k h1 h2 u0 u1 u2 u3 u4 u5 u6 o => by
            rw [Below.heap_alloc _ _ k (by simpa using h2)]
            repeat rw [Below.heap_setCell _ _ _ k (show k ≠ w.heap.size from by omega)]
            rw [Below.heap_setCell _ _ _ k (show k ≠ w.heap.size + 1 from by omega)]
          refine mit_mk rfl rfl rfl len0 LOK.out ⟨Nat.le_refl _, by decide⟩ (rowKn _ _) (ROW.out.mono (fr_lower (lo_m0 _) (show w.heap.size ≤ w.heap.size + 2 by omega) fun k h1 h2 => (hblk k h1 (by omega) _ _ _ _ _ _ _ _).trans (HBL.out.block k h2))) ?_
          refine rowIT_one (HMV.out.mono (fr_deep (lo_m0 _) (by omega) (fun k e => by cases e) (fun k h1 h2 _ => hblk k (by omega) h2 _ _ _ _ _ _ _ _) (.inl rfl))) (fun j u hj => ?_)
          unfold fr
          rw [if_pos (show w.heap.size ≤ w3.heap.size by omega), if_neg (by simp)]
          exact ucell_blk (al_new (by simp)) j (by simpa using hj)
        · have hle : w.heap.size ≤ w.heap.size := Nat.le_refl _
          have hle1 : w.heap.size ≤ w.heap.size + 1 := by omega
          have hs := HBL.out.size
          refine bl_alloc ?_ _
          exact (((((((bl_trans HBE.out HBL.out).setCell hle1 _).setCell hle _).setCell hle _).setCell hle _).setCell hle _).setCell hle _).setCell hle _
end Go.Proofs.YtaglgokeejjagaaGreat
/- 'plain' at objects. -/
namespace Go.Proofs.YtaglgokeejjagaaGreat
set_option linter.unusedVariables false
set_option linter.unusedSimpArgs false
open Go.RowKit Go.Sort Go.Proofs.YtaglgokeejjagaaGreatW.PrintLast

def PkP (k : AK) (w : World) (e : Ending) (w' : World) : Prop := e = .returned (.agg #[.int .i64 (kyOf k).kind, .string (kyOf k).text]) ∧ Below w.heap.size w w'
set_option maxHeartbeats 1000000 in
set_option maxRecDepth 100000 in
theorem plainKey_any (k : AK) (w : World) : Calls Tryz.prog 60 #[k.v] w (PkP k w) := by
  cases k with
  | none =>
    simp only [AK.v]
    go_enter Tryz.func60, Tryz.ntmps60
    go_wp2
    refine bodyPost_ret (v := .agg #[.int .i64 0, .string ⟨#[]⟩]) (by simp [results, Tryz.results60, go_sem]) rfl ⟨rfl, ?_⟩
    repeat (first | exact Below.refl _ _ | refine Below.setCell ?_ (by simp) _ | refine Below.alloc ?_ (by simp) _)
  | bool x =>
    cases x
    · simp only [AK.v]
      go_enter Tryz.func60, Tryz.ntmps60
      go_wp2
      refine bodyPost_ret (v := .agg #[.int .i64 1, .string ⟨#[]⟩]) (by simp [results, Tryz.results60, go_sem]) rfl ⟨rfl, ?_⟩
      repeat (first | exact Below.refl _ _ | refine Below.setCell ?_ (by simp) _ | refine Below.alloc ?_ (by simp) _)
    · simp only [AK.v]
      go_enter Tryz.func60, Tryz.ntmps60
      go_wp2
      refine bodyPost_ret (v := .agg #[.int .i64 2, .string ⟨#[]⟩]) (by simp [results, Tryz.results60, go_sem]) rfl ⟨rfl, ?_⟩
      repeat (first | exact Below.refl _ _ | refine Below.setCell ?_ (by simp) _ | refine Below.alloc ?_ (by simp) _)
  | text t =>
    simp only [AK.v]
    go_enter Tryz.func60, Tryz.ntmps60
    go_wp2
    refine bodyPost_ret (v := .agg #[.int .i64 4, .string t]) (by simp [results, Tryz.results60, go_sem]) rfl ⟨rfl, ?_⟩
    repeat (first | exact Below.refl _ _ | refine Below.setCell ?_ (by simp) _ | refine Below.alloc ?_ (by simp) _)

/-! ### two rows that grow by turns -/
/-- The cells from B on, but for two blocks. -/
def frX (B : Nat) (w : World) (r q : Option Nat) : Mem := fun a => if B ≤ a.block ∧ some a.block ≠ r ∧ some a.block ≠ q then ucell w a else none
theorem frX_none {B B' : Nat} {w w' : World} {r q : Option Nat} (hB : B' ≤ B) (hb : ∀ k, B ≤ k → k < w.heap.size → w'.heap[k]? = w.heap[k]?) : MLe (frX B w r q) (fr m0 B' w' none) := by
  intro a x h
  unfold frX at h
  split at h
  · rename_i hc
    unfold fr
    rw [if_pos (Nat.le_trans hB hc.1), if_neg (by simp)]
    exact (ucell_of (hb a.block hc.1 (ucell_lt h))).trans h
  · cases h
/-- Blocks r and q may turn; what they become may be new. -/
theorem frX_step {B : Nat} {w w' : World} {r q r' q' : Option Nat} (hb : ∀ k, B ≤ k → k < w.heap.size → some k ≠ r → some k ≠ q → w'.heap[k]? = w.heap[k]?) (hr : ∀ k, r' = some k → r = some k ∨ w.heap.size ≤ k) (hq : ∀ k, q' = some k → q = some k ∨ w.heap.size ≤ k) :
    MLe (frX B w r q) (frX B w' r' q') := by
  intro a x h
  unfold frX at h
  split at h
  · rename_i hc
    have hlt := ucell_lt h
    unfold frX
    rw [if_pos ⟨hc.1, fun e => by rcases hr _ e.symm with h1 | h1; exact hc.2.1 h1.symm; omega, fun e => by rcases hq _ e.symm with h1 | h1; exact hc.2.2 h1.symm; omega⟩]
    exact (ucell_of (hb a.block hc.1 hlt hc.2.1 hc.2.2)).trans h
  · cases h
/-- What a callee has laid from B1 on. -/
theorem frX_new {B B1 : Nat} {w w' : World} {r' q' : Option Nat} (hB : B ≤ B1) (hb : ∀ k, B1 ≤ k → k < w.heap.size → w'.heap[k]? = w.heap[k]?) (hr : ∀ k, r' = some k → k < B1 ∨ w.heap.size ≤ k) (hq : ∀ k, q' = some k → k < B1 ∨ w.heap.size ≤ k) :
    MLe (fr m0 B1 w none) (frX B w' r' q') := by
  intro a x h
  unfold fr at h
  split at h
  · rename_i h1
    rw [if_neg (by simp)] at h
    have hlt := ucell_lt h
    unfold frX
    rw [if_pos ⟨by omega, fun e => by rcases hr _ e.symm with h2 | h2 <;> omega, fun e => by rcases hq _ e.symm with h2 | h2 <;> omega⟩]
    exact (ucell_of (hb a.block h1 hlt)).trans h
  · cases h
/-- An element by its cells. -/
def EC (_ : Mem) (c cs : List Value) : Prop := c = cs
theorem em_EC : EM EC := fun _ _ _ _ _ h => h
theorem Own.flat {α : Type} {E : Mem → List Value → α → Prop} (hE : ∀ m m' c x, E m c x → E m' c x) {m : Mem} {e sz B : Nat} {w w' : World} {v : Value} {l : List α} (h : Own E m e sz B w v l) {r : Option Nat} (hg : w.grownBy w' r) (hr : ∀ k, v.ownBlock = some k → r ≠ some k) : Own E m e sz B w' v l := by
  obtain ⟨xs, ho, hx⟩ := h
  refine ⟨xs, ⟨ho.1, ?_⟩, fun i h => hE _ _ _ _ (hx i h)⟩
  rcases ho.2 with hn | ⟨g, cap, cur, rfl, hbg, hgg, rest⟩
  · exact .inl hn
  · exact .inr ⟨g, cap, cur, rfl, hbg, by rw [hg.block g (lt_blk hgg) (fun e => hr g rfl e.symm)]; exact hgg, rest⟩
theorem Own.rowC {B B' : Nat} {w w' : World} {v : Value} {l : List (List Value)} {ts : List IT} {r q : Option Nat} (h : Own EC m0 25 6 B w v l) (hl : l.length = ts.length) (hm : ∀ i (h1 : i < l.length) (h2 : i < ts.length), MIT (frX B w r q) l[i] ts[i]) (hB : B' ≤ B) (hb : ∀ k, B ≤ k → k < w.heap.size → w'.heap[k]? = w.heap[k]?) :
    ∃ a c, v = .slice a l.length c ∧ lenOk l.length c ∧ RowIT (fr m0 B' w' none) a ts := by
  obtain ⟨a, c, f, rfl, h1, h2, hr, hx⟩ := h.row em_EC
  refine ⟨a, c, rfl, ⟨h1, Nat.le_trans h2 (by simp [maxLen])⟩, f, ?_, fun i hi => ?_⟩
  · rw [← hl]
    exact hr.mono (fr_lower (lo_m0 _) hB hb)
  · have := hx i (by omega)
    unfold EC at this
    rw [this]
    exact (hm i (by omega) hi).mono (frX_none hB hb)

theorem rowIT_two {m : Mem} {b : Nat} {c1 c2 : List Value} {t1 t2 : IT} (h1 : MIT m c1 t1) (h2 : MIT m c2 t2) (l1 : c1.length = 6) (l2 : c2.length = 6) (hc : ∀ j u, (c1 ++ c2)[j]? = some u → m ⟨b, j, none⟩ = some u) : RowIT m (some ⟨b, 0, none⟩) [t1, t2] :=
  ⟨fun i => if i = 0 then c1 else c2, fun _ => ⟨b, 0, rfl, fun i hi j u hu => by
    have hi' : i = 0 ∨ i = 1 := by simp at hi; omega
    rcases hi' with rfl | rfl
    · simp only [if_true] at hu
      have hj : j < c1.length := (List.getElem?_eq_some_iff.1 hu).1
      have := hc j u (by rw [List.getElem?_append_left hj]; exact hu)
      simpa using this
    · simp only [show ¬ (1 = 0) by decide, if_false] at hu
      have := hc (6 + j) u (by rw [List.getElem?_append_right (by omega), l1, Nat.add_sub_cancel_left]; exact hu)
      simpa using this⟩, fun i hi => by
    have hi' : i = 0 ∨ i = 1 := by simp at hi; omega
    rcases hi' with rfl | rfl
    · exact h1
    · exact h2⟩
set_option maxHeartbeats 6000000 in
set_option maxRecDepth 100000 in
theorem pl_obj {m : Mem} {w : World} {b c : Nat} {a : Option Addr} {ps : List Nat} {xs : List Value} {ks : List AK} {kids more : List ST} {dv : Value} {ds : List Value} (IH : Hid (∀ k, k ∈ kids ∨ k ∈ more → PlOk k)) (hw : WS (.mk 6 (ks.map kyOf) kids more) ≤ 1000000000)
      (h0 : m ⟨b, 0, none⟩ = some (.slice a kids.length c)) (h1 : m ⟨b, 1, none⟩ = some dv) (lk : lenOk kids.length c)
      (hp : ps.length = kids.length) (hx : xs.length = kids.length) (hk : ks.length = kids.length) (r : RowX m a (ps.map fun p => .pointer (some ⟨p, 0, none⟩)))
      (e0 : ∀ i (h : i < ps.length) (h1 : i < ks.length), m ⟨ps[i], 0, none⟩ = some ks[i].v) (e1 : ∀ i (h : i < ps.length) (h1 : i < xs.length), m ⟨ps[i], 1, none⟩ = some xs[i]) (e : ∀ i (h1 : i < xs.length) (h2 : i < kids.length), RT m xs[i] kids[i])
      (hd : dv = .pointer none ∧ more = [] ∨ ∃ q, dv = .pointer (some ⟨q, 0, none⟩) ∧ ds.length = 2 ∧ more.length = 2 ∧ ∀ i (h : i < ds.length), m ⟨q, i, none⟩ = some ds[i])
      (e2 : ∀ i (h1 : i < ds.length) (h2 : i < more.length), RT m ds[i] more[i]) (hm : MLe m w.cell?) :
    Calls Tryz.prog 44 #[.iface 80 (.pointer (some ⟨b, 0, none⟩))] w (PlP (.mk 6 (ks.map kyOf) kids more) w) := by
  obtain ⟨l1, l2⟩ := lk
  have HR := Lib.hid r
  have HE0 := Lib.hid e0
  have HE1 := Lib.hid e1
  have HE := Lib.hid e
  have HE2 := Lib.hid e2
  have HM := Lib.hid hm
  have HPL := Lib.hid hp
  have HXL := Lib.hid hx
  have HKL := Lib.hid hk
  have HW := Lib.hid hw
  have HD := Lib.hid hd
  have HKN := Lib.hid (Nat.le_trans (WS_lens 6 (ks.map kyOf) kids more).2.1 hw)
  have HC1 := Lib.hid h1
  have c0 := hm _ _ h0
  have hbw : b < w.heap.size := World.block_lt_of_cell? _ _ c0
  clear r e e0 e1 e2 hm hp hx hk hw h0 h1 hd
  go_enter Tryz.func44, Tryz.ntmps44
  go_wp2
  clear c0
  go_loopw [76] (fun i wr => ∃ (k : Nat) (vk v : Value) (cs : List (List Value)), k ≤ kids.length ∧ i = .int .i64 k ∧ Hid (cs.length = k ∧
      wr.heap[w.heap.size]? = some (.cells #[.int .i64 0, .string ⟨#[]⟩, .string ⟨#[]⟩, .slice none 0 0, .slice none 0 0, .slice none 0 0] 25 (0, 0)) ∧
      wr.heap[w.heap.size + 1]? = some (.cells #[.int .i64 6, .string ⟨#[]⟩, .string ⟨#[]⟩, vk, v, .slice none 0 0] 25 (0, 0)) ∧
      Own EKy m0 54 2 (w.heap.size + 2) wr vk ((ks.take k).map kyOf) ∧ Own EC m0 25 6 (w.heap.size + 2) wr v cs ∧
      (∀ i (h1 : i < cs.length) (h2 : i < kids.length), MIT (frX (w.heap.size + 2) wr v.ownBlock vk.ownBlock) cs[i] (toI kids[i])) ∧
      (∀ g, v.ownBlock = some g → vk.ownBlock ≠ some g) ∧ Below w.heap.size w wr ∧ w.heap.size + 2 ≤ wr.heap.size)) (fun i _ => kids.length - (intOf i).toNat)
  case atStart =>
    refine ⟨0, .slice none 0 0, .slice none 0 0, [], Nat.zero_le _, rfl, rfl, ?_, ?_, Own.nil .., Own.nil .., fun i h => absurd h (Nat.not_lt_zero _), fun g h => by simp [Value.ownBlock] at h, ?_, ?_⟩
    · exact al_old (al_new (by simp))
    · exact al_new (by simp)
    · repeat (first | exact Below.refl _ _ | refine Below.alloc ?_ (by simp; try omega) _)
    · simp
  case round =>
    obtain ⟨k, vk, v, cs, hk, rfl, hI⟩ := hrel
    by_cases hlt : k < kids.length
    · have hm1 := HM.out.trans (mle_below hI.out.2.2.2.2.2.2.2.1)
      have hkx : k < xs.length := by have := HXL.out; omega
      have hkp : k < ps.length := by have := HPL.out; omega
      have hkk : k < ks.length := by have := HKL.out; omega
      have hkr : k < (ps.map fun p => (Value.pointer (some ⟨p, 0, none⟩))).length := by simpa using hkp
      obtain ⟨rb, off, ea, hx0⟩ := HR.out.at hkr
      subst ea
      rw [List.getElem_map] at hx0
      have HXR := Lib.hid (HE.out k hkx hlt)
      obtain ⟨Tk, yk, hxs⟩ := HXR.out.shape
      have HSH := Lib.hid hxs
      have p0 := HE0.out k hkp hkk
      have p1 := HE1.out k hkp hkx
      rw [hxs] at p1
      have q0 := hm1 _ _ hx0
      have HP0 := Lib.hid (hm1 _ _ p0)
      have HP1 := Lib.hid (hm1 _ _ p1)
      have HM1 := Lib.hid hm1
      have HPB := Lib.hid (show ps[k] < w.heap.size from World.block_lt_of_cell? _ _ (HM.out _ _ p0))
      have HPB2 := Lib.hid (show ∀ g, vk.ownBlock = some g → ps[k] ≠ g from fun g e => by have := (hI.out.2.2.2.1.lt g e).1; have := HPB.out; omega)
      have HPB3 := Lib.hid (show ∀ g, v.ownBlock = some g → ps[k] ≠ g from fun g e => by have := (hI.out.2.2.2.2.1.lt g e).1; have := HPB.out; omega)
      have HIN := Lib.hid (fun (W : World) (h : MLe m W.cell?) => show Calls Tryz.prog 44 #[.iface Tk yk] W (PlP kids[k] W) from IH.out _ (.inl (List.getElem_mem hlt)) _ m W (Nat.le_trans (WS_kid (List.getElem_mem hlt)) HW.out) (by rw [← HSH.out]; exact HXR.out) h)
      have HV := Lib.hid (fun k' (e : v.ownBlock = some k') => (hI.out.2.2.2.2.1.lt k' e))
      have HVK := Lib.hid (fun k' (e : vk.ownBlock = some k') => (hI.out.2.2.2.1.lt k' e))
      have hrr : vk.ownBlock = none ∨ True := .inr trivial
      clear hxs hx0 hm1 p0 p1 hrr
      go_wp2
      clear q0
      have HB := Lib.hid hI.out.2.2.1
      have HPH := Lib.hid (show ∃ o, wr.heap[ps[k]]? = some o from ⟨_, Array.getElem?_eq_getElem (World.block_lt_of_cell? _ _ HP0.out)⟩)
      refine start_ (n := 22) (S := fun w' => w'.cell? ⟨w.heap.size + 1, 3, none⟩ = some vk ∧ w'.cell? ⟨w.heap.size + 1, 4, none⟩ = some v ∧ w'.cell? ⟨ps[k], 0, none⟩ = some ks[k].v ∧ w'.cell? ⟨ps[k], 1, none⟩ = some (.iface Tk yk)) (ds := [19, 21]) (lb 22 0) (by kernel_rfl) rfl rfl ⟨cell_blk HB.out 3 rfl, cell_blk HB.out 4 rfl, HP0.out, HP1.out⟩ (fun hHeld => ?_)
      refine pure_ (i := 0) (N := some 80) (v := ?_) (a' := ?_) (lb 22 1) rfl rfl (by kernel_rfl) (fun _ _ _ h => h) (Or.inl ⟨by rfl, ?_⟩) ?_ ?_
      rotate_left
      · intro w'
        go_simp
        with_reducible rfl
      rotate_left
      · simp only [Act.put, nrA, nrB, nrC, i64_w, i32_w]
        rfl
      refine pure_ (i := 2) (N := some 82) (v := ?_) (a' := ?_) (lb 22 5) rfl rfl (by kernel_rfl) (fun _ _ _ h => h) (Or.inl ⟨by rfl, ?_⟩) ?_ ?_
      rotate_left
      · intro w'
        go_simp
        with_reducible rfl
      rotate_left
      · simp only [Act.put, nrA, nrB, nrC, i64_w, i32_w]
        rfl
      refine pure_ (i := 3) (N := some 83) (v := ?_) (a' := ?_) (lb 22 13) rfl rfl (by kernel_rfl) (fun _ _ _ h => h) (Or.inl ⟨by rfl, ?_⟩) ?_ ?_
      rotate_left
      · intro w'
        go_simp
        with_reducible rfl
      rotate_left
      · simp only [Act.put, nrA, nrB, nrC, i64_w, i32_w]
        rfl
      refine pure_ (i := 4) (N := some 84) (v := ?_) (a' := ?_) (lb 22 29) rfl rfl (by kernel_rfl) (fun _ _ _ h => h) (Or.inl ⟨by rfl, ?_⟩) ?_ ?_
      rotate_left
      · intro w'
        go_simp
        with_reducible rfl
      rotate_left
      · simp only [Act.put, nrA, nrB, nrC, i64_w, i32_w]
        rfl
      refine pure_ (i := 9) (N := some 89) (v := ?_) (a' := ?_) (lb 22 541) rfl rfl (by kernel_rfl) (fun _ _ _ h => h) (Or.inl ⟨by rfl, ?_⟩) ?_ ?_
      rotate_left
      · intro w'
        go_simp
        with_reducible rfl
      rotate_left
      · simp only [Act.put, nrA, nrB, nrC, i64_w, i32_w]
        rfl
      refine pure_ (i := 11) (N := some 91) (v := ?_) (a' := ?_) (lb 22 2589) rfl rfl (by kernel_rfl) (fun _ _ _ h => h) (Or.inl ⟨by rfl, ?_⟩) ?_ ?_
      rotate_left
      · intro w'
        go_simp
        with_reducible rfl
      rotate_left
      · simp only [Act.put, nrA, nrB, nrC, i64_w, i32_w]
        rfl
      refine pure_ (i := 12) (N := some 92) (v := ?_) (a' := ?_) (lb 22 6685) rfl rfl (by kernel_rfl) (fun _ _ _ h => h) (Or.inl ⟨by rfl, ?_⟩) ?_ ?_
      rotate_left
      · intro w'
        go_simp
        with_reducible rfl
      rotate_left
      · simp only [Act.put, nrA, nrB, nrC, i64_w, i32_w]
        rfl
      refine pure_ (i := 13) (N := some 93) (v := ?_) (a' := ?_) (lb 22 14877) rfl rfl (by kernel_rfl) (fun _ _ _ h => h) (Or.inl ⟨by rfl, ?_⟩) ?_ ?_
      rotate_left
      · intro w'
        go_simp
        with_reducible rfl
      rotate_left
      · simp only [Act.put, nrA, nrB, nrC, i64_w, i32_w]
        rfl
      refine take_ (i := 1) (N := some 81) (v := ?_) (a' := ?_) (lb 22 14879) rfl rfl (by kernel_rfl) (fun _ _ _ h => h) (Or.inl ⟨by rfl, ?_⟩) hHeld ?_ ?_
      rotate_left
      · rintro w' ⟨s0, s1, s2, s3⟩
        go_simp
        with_reducible rfl
      rotate_left
      · simp only [Act.put, nrA, nrB, nrC, i64_w, i32_w]
        rfl
      refine take_ (i := 5) (N := some 85) (v := ?_) (a' := ?_) (lb 22 14911) rfl rfl (by kernel_rfl) (fun _ _ _ h => h) (Or.inl ⟨by rfl, ?_⟩) hHeld ?_ ?_
      rotate_left
      · rintro w' ⟨s0, s1, s2, s3⟩
        go_simp
        with_reducible rfl
      rotate_left
      · simp only [Act.put, nrA, nrB, nrC, i64_w, i32_w]
        rfl
      refine take_ (i := 10) (N := some 90) (v := ?_) (a' := ?_) (lb 22 15935) rfl rfl (by kernel_rfl) (fun _ _ _ h => h) (Or.inl ⟨by rfl, ?_⟩) hHeld ?_ ?_
      rotate_left
      · rintro w' ⟨s0, s1, s2, s3⟩
        go_simp
        with_reducible rfl
      rotate_left
      · simp only [Act.put, nrA, nrB, nrC, i64_w, i32_w]
        rfl
      refine take_ (i := 14) (N := some 94) (v := ?_) (a' := ?_) (lb 22 32319) rfl rfl (by kernel_rfl) (fun _ _ _ h => h) (Or.inl ⟨by rfl, ?_⟩) hHeld ?_ ?_
      rotate_left
      · rintro w' ⟨s0, s1, s2, s3⟩
        go_simp
        with_reducible rfl
      rotate_left
      · simp only [Act.put, nrA, nrB, nrC, i64_w, i32_w]
        rfl
      refine one_ (i := 6) (N := some 86) (lb 22 32383) rfl rfl (by kernel_rfl) (by decide) (fun K hK => ?_)
      refine goes_ Tryz.func60 (by kernel_rfl) rfl #[ks[k].v] (by rfl) rfl rfl (by simp only [List.map_toArray, List.map_cons, List.map_nil]; rfl) ?_
      with_reducible refine (plainKey_any ks[k] _).mono ?_
      rintro e w1 ⟨rfl, hbk⟩
      refine ⟨_, rfl, ?_⟩
      have hP1 := fun {i : Nat} {x : Value} (h : wr.cell? ⟨ps[k], i, none⟩ = some x) => (mle_below hbk) _ _ (show wr.drew.cell? _ = _ from h)
      refine hK.out _ _ ⟨cell_blk (bl_heap hbk HB.out) 3 rfl, cell_blk (bl_heap hbk HB.out) 4 rfl, hP1 HP0.out, hP1 HP1.out⟩ (fun hHeld => ?_)
      clear hK K
      refine norm_ (a' := ?_) ?_ ?_
      rotate_left
      · show Act.put _ (some 86) _ = _
        simp only [Act.put, nrA, nrB, nrC, i64_w, i32_w]
        rfl
      refine one_ (i := 7) (N := some 87) (lb 22 32511) rfl rfl (by kernel_rfl) (by decide) (fun K hK => ?_)
      refine value_ (w1 := ?_) (v := ?_) (by rfl) rfl ?_ ?_
      rotate_left 2
      · go_simp
        constructor
        · rfl
        · rfl
      have hP2 := fun {i : Nat} {x : Value} (h : wr.cell? ⟨ps[k], i, none⟩ = some x) (o : Obj) => ((Gr.refl w1).alloc o).cell (hP1 h)
      refine hK.out _ _ ⟨cell_blk (al_old (bl_heap hbk HB.out)) 3 rfl, cell_blk (al_old (bl_heap hbk HB.out)) 4 rfl, hP2 HP0.out _, hP2 HP1.out _⟩ (fun hHeld => ?_)
      clear hK K
      refine norm_ (a' := ?_) ?_ ?_
      rotate_left
      · show Act.put _ (some 87) _ = _
        simp only [Act.put, nrA, nrB, nrC, i64_w, i32_w]
        rfl
      refine one_ (i := 8) (N := some 88) (lb 22 32767) rfl rfl (by kernel_rfl) (by decide) (fun K hK => ?_)
      refine step_snoc em_Ky rfl _ _ _ rfl rfl _ _ rfl (Snoc.call em_Ky hI.out.2.2.2.1 (lo_m0 _) (Below.refl _ _).drew hbk (eky _ (kyOf ks[k])) sl22 rfl (by simp [Value.oneCell']) (by have := HKN.out; have := HKL.out; simp; omega) (by have := HKN.out; have := HKL.out; simp [maxLen]; omega) hI.out.2.2.2.2.2.2.2.2) ?_
      intro gk capk w2 hownk hgk hvk hggk
      have hB2 := grown_heap hgk (al_old (bl_heap hbk HB.out)) (fun k' e => by have := hvk k' e; omega)
      have hP3 := fun {i : Nat} {x : Value} (h : wr.cell? ⟨ps[k], i, none⟩ = some x) => (World.cell?_of_block (a := ⟨ps[k], i, none⟩) (hgk.block ps[k] (World.block_lt_of_cell? _ _ (hP2 h _)) (fun e => HPB2.out _ e.symm rfl))).trans (hP2 h _)
      refine hK.out _ _ ⟨cell_blk hB2 3 rfl, cell_blk hB2 4 rfl, hP3 HP0.out, hP3 HP1.out⟩ (fun hHeld => ?_)
      clear hK K
      refine norm_ (a' := ?_) ?_ ?_
      rotate_left
      · show Act.put _ (some 88) _ = _
        simp only [Act.put, nrA, nrB, nrC, i64_w, i32_w]
        rfl
      refine pure_ (i := 18) (N := some 98) (v := ?_) (a' := ?_) (lb 22 294911) rfl rfl (by kernel_rfl) (fun _ _ _ h => h) (Or.inl ⟨by rfl, ?_⟩) ?_ ?_
      rotate_left
      · intro w'
        go_simp
        with_reducible rfl
      rotate_left
      · simp only [Act.put, nrA, nrB, nrC, i64_w, i32_w]
        rfl
      refine one_ (i := 15) (N := some 95) (lb 22 327679) rfl rfl (by kernel_rfl) (by decide) (fun K hK => ?_)
      refine goes_ Tryz.func44 (by kernel_rfl) rfl #[.iface Tk yk] (by rfl) rfl rfl (by simp only [List.map_toArray, List.map_cons, List.map_nil]; rfl) ?_
      with_reducible refine (HIN.out _ (HM.out.trans (mle_below (bl_grown (bl_alloc (bl_trans hI.out.2.2.2.2.2.2.2.1.drew hbk) _) hgk (fun k' e => by have := hvk k' e; omega))))).mono ?_
      rintro e w3 ⟨ak', nk', ck', a1', n1', c1', a2', n2', c2', rfl, hmv, hbl⟩
      refine ⟨_, rfl, ?_⟩
      refine hK.out _ _ ⟨cell_blk (bl_heap hbl hB2) 3 rfl, cell_blk (bl_heap hbl hB2) 4 rfl, (mle_below hbl) _ _ (hP3 HP0.out), (mle_below hbl) _ _ (hP3 HP1.out)⟩ (fun hHeld => ?_)
      clear hK K
      refine norm_ (a' := ?_) ?_ ?_
      rotate_left
      · show Act.put _ (some 95) _ = _
        simp only [Act.put, nrA, nrB, nrC, i64_w, i32_w]
        rfl
      refine one_ (i := 16) (N := some 96) (lb 22 393215) rfl rfl (by kernel_rfl) (by decide) (fun K hK => ?_)
      refine value_ (w1 := ?_) (v := ?_) (by rfl) rfl ?_ ?_
      rotate_left 2
      · go_simp
        constructor
        · rfl
        · rfl
      refine hK.out _ _ ⟨cell_blk (al_old (bl_heap hbl hB2)) 3 rfl, cell_blk (al_old (bl_heap hbl hB2)) 4 rfl, ((Gr.refl w3).alloc _).cell ((mle_below hbl) _ _ (hP3 HP0.out)), ((Gr.refl w3).alloc _).cell ((mle_below hbl) _ _ (hP3 HP1.out))⟩ (fun hHeld => ?_)
      clear hK K
      refine norm_ (a' := ?_) ?_ ?_
      rotate_left
      · show Act.put _ (some 96) _ = _
        simp only [Act.put, nrA, nrB, nrC, i64_w, i32_w]
        rfl
      refine one_ (i := 17) (N := some 97) (lb 22 524287) rfl rfl (by kernel_rfl) (by decide) (fun K hK => ?_)
      have hownc := ((hI.out.2.2.2.2.1.drew em_EC).bl em_EC hbk).alloc em_EC (.cells #[.int .i64 (kyOf ks[k]).kind, .string (kyOf ks[k]).text] 54)
      have hownc2 := hownc.flat (fun _ _ _ _ h => h) hgk (fun g e e2 => hI.out.2.2.2.2.2.2.1 g e e2)
      refine step_snoc em_EC rfl _ _ _ rfl rfl _ _ rfl (Snoc.call em_EC hownc2 (lo_m0 _) (Below.refl _ _) hbl (rfl : EC _ [.int .i64 kids[k].kind, .string ⟨#[]⟩, .string ⟨#[]⟩, .slice ak' nk' ck', .slice a1' n1' c1', .slice a2' n2' c2'] _) sl23 rfl (by simp [Value.oneCell']) (by have := HKN.out; have := hI.out.1; omega) (by have := HKN.out; have := hI.out.1; simp [maxLen]; omega) (by have := hgk.size; have := hbk.size; have := hI.out.2.2.2.2.2.2.2.2; simp at *; omega)) ?_
      intro g' cap w5 hown5 hg5 hv5 hgg5
      have hB5 := grown_heap hg5 (al_old (bl_heap hbl hB2)) (fun k' e => by have := hv5 k' e; omega)
      have hP5 := fun {i : Nat} {x : Value} (h : wr.cell? ⟨ps[k], i, none⟩ = some x) => (World.cell?_of_block (a := ⟨ps[k], i, none⟩) (hg5.block ps[k] (World.block_lt_of_cell? _ _ (((Gr.refl w3).alloc _).cell ((mle_below hbl) _ _ (hP3 h)))) (fun e => HPB3.out _ e.symm rfl))).trans (((Gr.refl w3).alloc _).cell ((mle_below hbl) _ _ (hP3 h)))
      refine hK.out _ _ ⟨cell_blk hB5 3 rfl, cell_blk hB5 4 rfl, hP5 HP0.out, hP5 HP1.out⟩ (fun hHeld => ?_)
      clear hK K
      refine norm_ (a' := ?_) ?_ ?_
      rotate_left
      · show Act.put _ (some 97) _ = _
        simp only [Act.put, nrA, nrB, nrC, i64_w, i32_w]
        rfl
      refine last_ (i := 19) (N := none) (lb 22 1048575) rfl rfl (by kernel_rfl) (by decide) (fun K hK => ?_)
      have c3 := cell_blk hB5 3 rfl
      have f3 := froz_blk hB5 3
      refine skip_ (w1 := ?_) (by rfl) rfl ?_ ?_
      rotate_left
      · go_simp
        rfl
      refine hK.out _ _ ?_
      clear hK K
      refine pure_ (i := 20) (N := some 99) (v := ?_) (a' := ?_) (lb 22 2097151) rfl rfl (by kernel_rfl) (fun _ _ _ h => h) (Or.inl ⟨by rfl, ?_⟩) ?_ ?_
      rotate_left
      · intro w'
        go_simp
        with_reducible rfl
      rotate_left
      · simp only [Act.put, nrA, nrB, nrC, i64_w, i32_w]
        rfl
      refine last_ (i := 21) (N := none) (lb 22 4194303) rfl rfl (by kernel_rfl) (by decide) (fun K hK => ?_)
      have hB6 := set_blk hB5 3 (.slice (some ⟨gk, 0, none⟩) (((ks.take k).map kyOf).length + 1) capk)
      have c4 := cell_blk hB6 4 rfl
      have f4 := froz_blk hB5 4
      refine skip_ (w1 := ?_) (by rfl) rfl ?_ ?_
      rotate_left
      · go_simp
        rfl
      refine hK.out _ _ ?_
      clear hK K
      refine done_ (by kernel_rfl) ?_
      clear c3 f3 c4 f4
      have HS5 := lt_blk hB5
      go_wp2
      go_roundw
      case rel =>
        have el : ((ks.take k).map kyOf).length = k := by simp; omega
        have ek : (ks.take (k + 1)).map kyOf = (ks.take k).map kyOf ++ [kyOf ks[k]] := by rw [List.take_succ_eq_append_getElem hkk, List.map_append, List.map_cons, List.map_nil]
        have emin : min k ks.length = k := by omega
        have ecs := hI.out.1
        have s1 := hbk.size
        have s2 := hgk.size
        have s3 := hbl.size
        have s5 := hg5.size
        have s0 := hI.out.2.2.2.2.2.2.2.2
        simp at s1 s2 s5
        have gkl := (hownk.lt gk rfl).2
        rw [el] at hownk
        rw [← ek] at hownk
        have hdis : g' ≠ gk := by
          intro eg
          rcases hgg5 with h | h
          · rcases hggk with h3 | h3
            · exact hI.out.2.2.2.2.2.2.1 g' h (by rw [eg]; exact h3)
            · have := (HV.out g' h).2; simp at h3; omega
          · simp at h; omega
        have hset : ∀ k', k' ≠ w.heap.size + 1 → ∀ (u u' : Value), (((w5.setCell ⟨w.heap.size + 1, 3, none⟩ u).setCell ⟨w.heap.size + 1, 4, none⟩ u').heap[k']?) = w5.heap[k']? := fun k' h u u' => by
          rw [Below.heap_setCell _ _ _ k' h, Below.heap_setCell _ _ _ k' h]
        have hch : ∀ k', k' < wr.heap.size → some k' ≠ v.ownBlock → some k' ≠ vk.ownBlock → w5.heap[k']? = wr.heap[k']? := fun k' h1 h2 h3 => by
          rw [hg5.block k' (by simp; omega) h2, Below.heap_alloc _ _ k' (by omega), hbl.block k' (by omega), hgk.block k' (by simp; omega) h3, Below.heap_alloc _ _ k' (by omega), hbk.block k' (by simpa using h1)]
          rfl
        have hO5 := ((hownk.bl em_Ky hbl).alloc em_Ky (.cells #[.int .i64 kids[k].kind, .string ⟨#[]⟩, .string ⟨#[]⟩, .slice ak' nk' ck', .slice a1' n1' c1', .slice a2' n2' c2'] 25)).flat (fun _ _ _ _ h => h) hg5 (fun g e e2 => by
          simp only [Value.ownBlock, Option.some.injEq] at e
          subst e
          rcases hggk with h | h
          · exact hI.out.2.2.2.2.2.2.1 gk e2 h
          · have := (HV.out gk e2).2; simp at h; omega)
        simp only [emin, ecs] at hown5 ⊢
        refine ⟨k + 1, .slice (some ⟨gk, 0, none⟩) (k + 1) capk, .slice (some ⟨g', 0, none⟩) (k + 1) cap, cs ++ [_], by omega, by go_num, by simp [ecs], ?_, ?_, (hO5.setLow em_Ky (show w.heap.size + 1 < w.heap.size + 2 by omega) _).setLow em_Ky (show w.heap.size + 1 < w.heap.size + 2 by omega) _, (hown5.setLow em_EC (show w.heap.size + 1 < w.heap.size + 2 by omega) _).setLow em_EC (show w.heap.size + 1 < w.heap.size + 2 by omega) _, ?_, ?_, ?_, ?_⟩
        · rw [hset _ (by omega)]
          exact (hch _ (by omega) (fun e => by have := (HV.out _ e.symm).1; omega) (fun e => by have := (HVK.out _ e.symm).1; omega)).trans hI.out.2.1
        · exact set_blk (set_blk hB5 3 _) 4 _
        · intro i h1 h2
          by_cases hi : i < cs.length
          · rw [List.getElem_append_left hi]
            refine (hI.out.2.2.2.2.2.1 i hi h2).mono (frX_step (fun k' h1 h2 h3 h4 => (hset k' (by omega) _ _).trans (hch k' h2 h3 h4)) (fun k' e => ?_) (fun k' e => ?_))
            · simp only [Value.ownBlock, Option.some.injEq] at e
              subst e
              rcases hgg5 with h | h
              · exact .inl h
              · simp at h; exact .inr (by omega)
            · simp only [Value.ownBlock, Option.some.injEq] at e
              subst e
              rcases hggk with h | h
              · exact .inl h
              · simp at h; exact .inr (by omega)
          · obtain rfl : i = cs.length := by simp at h1; omega
            have e2 : kids[cs.length] = kids[k] := by simp only [ecs]
            rw [e2]
            simp only [List.getElem_concat_length]
            refine hmv.mono (frX_new (by omega) (fun k' h1 h2 => (hset k' (by omega) _ _).trans ?_) (fun k' e => ?_) (fun k' e => ?_))
            · rw [hg5.block k' (by simp; omega) (fun e => by have := (HV.out _ e.symm).2; omega), Below.heap_alloc _ _ k' h2]
            · simp only [Value.ownBlock, Option.some.injEq] at e
              subst e
              rcases hgg5 with h | h
              · have := (HV.out _ h).2; exact .inl (by omega)
              · simp at h; exact .inr (by omega)
            · simp only [Value.ownBlock, Option.some.injEq] at e
              subst e
              exact .inl gkl
        · intro g e e2
          simp only [Value.ownBlock, Option.some.injEq] at e e2
          exact hdis (e.trans e2.symm)
        · have hbe := bl_grown (bl_alloc (bl_trans (bl_grown (bl_alloc (bl_trans hI.out.2.2.2.2.2.2.2.1.drew hbk) _) hgk (fun k' e => by have := hvk k' e; omega)) hbl) _) hg5 (fun k' e => by have := hv5 k' e; omega)
          exact (hbe.setCell (show w.heap.size ≤ w.heap.size + 1 by omega) _).setCell (show w.heap.size ≤ w.heap.size + 1 by omega) _
        · have e5 : ∀ (u u' : Value), ((w5.setCell ⟨w.heap.size + 1, 3, none⟩ u).setCell ⟨w.heap.size + 1, 4, none⟩ u').heap.size = w5.heap.size := fun u u' => by simp
          rw [e5]; omega
      case measure => simp [intOf]; omega
    · obtain rfl : k = kids.length := by omega
      obtain ⟨ecs, hh1, hh2, hownk, hownc, hmt, hdis, hb, hsz⟩ := hI.out
      have etk : (ks.take kids.length).map kyOf = ks.map kyOf := by rw [List.take_of_length_le (by have := HKL.out; omega)]
      rw [etk] at hownk
      have hkl : (ks.map kyOf).length = kids.length := by simpa using HKL.out
      obtain ⟨ak, ck, rfl, lkk, rowk⟩ := hownk.rowK
      obtain ⟨a', c', rfl, lkc, rowc⟩ := hownc.rowC (B' := w.heap.size + 2) (w' := wr) (ts := kids.map toI) (r := v.ownBlock) (q := (Value.slice ak (ks.map kyOf).length ck).ownBlock) (by simp [ecs]) (fun i h1 h2 => by rw [List.getElem_map]; exact hmt i h1 (by simpa using h2)) (Nat.le_refl _) (fun _ _ _ => rfl)
      rw [hkl] at lkk hh2
      rw [ecs] at lkc hh2
      have c1 := (HM.out.trans (mle_below hb)) _ _ HC1.out
      obtain ⟨o0, o1, o2, o3, o4, o5⟩ := cells6 hh2
      obtain ⟨r0, r1, r2, r3, r4, r5⟩ := cells6 hh1
      have fr' := froz_blk hh1
      have fo' := froz_blk hh2
      have HBE := Lib.hid hb
      have HH1 := Lib.hid hh1
      have HH2 := Lib.hid hh2
      have ROWK := Lib.hid rowk
      have ROWC := Lib.hid rowc
      have LKK := Lib.hid lkk
      have LKC := Lib.hid lkc
      have hszz : w.heap.size + 1 < wr.heap.size := by omega
      have hszy : w.heap.size < wr.heap.size := by omega
      clear hh1 hh2 hownk hownc hb hI hmt hdis rowk rowc lkk lkc ecs etk hkl
      rcases HD.out with ⟨rfl, rfl⟩ | ⟨q, rfl, hd2, hm2, hq⟩
      · go_wp2
        refine bodyPost_ret (v := .agg #[.int .i64 6, .string ⟨#[]⟩, .string ⟨#[]⟩, .slice ak kids.length ck, .slice a' kids.length c', .slice none 0 0]) (by simp [results, Tryz.results44, go_sem, r0, r1, r2, r3, r4, r5, hszy, fr']) rfl ⟨_, _, _, _, _, _, _, _, _, rfl, ?_, ?_⟩
        · have hk6 : ∀ k, w.heap.size + 2 ≤ k → k < wr.heap.size → ∀ (u1 u2 u3 u4 u5 u6 : Value), (((((((wr.setCell ⟨w.heap.size, 0, none⟩ u1).setCell ⟨w.heap.size, 1, none⟩ u2).setCell ⟨w.heap.size, 2, none⟩ u3).setCell ⟨w.heap.size, 3, none⟩ u4).setCell ⟨w.heap.size, 4, none⟩ u5).setCell ⟨w.heap.size, 5, none⟩ u6).heap[k]?) = wr.heap[k]? := fun k h1 h2 u1 u2 u3 u4 u5 u6 => by
            repeat rw [Below.heap_setCell _ _ _ k (show k ≠ w.heap.size from by omega)]
          refine mit_mk (by simpa using HKL.out.symm) rfl rfl LKK.out LKC.out len0 (ROWK.out.mono (fr_lower (lo_m0 _) (show w.heap.size ≤ w.heap.size + 2 by omega) fun k h1 h2 => hk6 k h1 h2 _ _ _ _ _ _)) (ROWC.out.mono (fr_lower (lo_m0 _) (show w.heap.size ≤ w.heap.size + 2 by omega) fun k h1 h2 => hk6 k h1 h2 _ _ _ _ _ _)) (rowIT_nil _ _)
        · have hle : w.heap.size ≤ w.heap.size := Nat.le_refl _
          exact (((((HBE.out.setCell hle _).setCell hle _).setCell hle _).setCell hle _).setCell hle _).setCell hle _
      · obtain ⟨dv0, dv1, rfl⟩ : ∃ a b, ds = [a, b] := by
          match ds, hd2 with
          | [x, y], _ => exact ⟨x, y, rfl⟩
        obtain ⟨t0, t1, rfl⟩ : ∃ a b, more = [a, b] := by
          match more, hm2 with
          | [x, y], _ => exact ⟨x, y, rfl⟩
        have hq0 := hq 0 (by simp)
        have hq1 := hq 1 (by simp)
        simp only [List.getElem_cons_zero, List.getElem_cons_succ] at hq0 hq1
        have hrt0 : RT m dv0 t0 := HE2.out 0 (by simp) (by simp)
        have hrt1 : RT m dv1 t1 := HE2.out 1 (by simp) (by simp)
        obtain ⟨T0, y0, rfl⟩ := hrt0.shape
        obtain ⟨T1, y1, rfl⟩ := hrt1.shape
        have HRT0 := Lib.hid hrt0
        have HRT1 := Lib.hid hrt1
        have HIN0 := Lib.hid (fun (W : World) (h : MLe m W.cell?) => show Calls Tryz.prog 44 #[.iface T0 y0] W (PlP t0 W) from IH.out _ (.inr (by simp)) _ m W (Nat.le_trans (WS_more (by simp)) HW.out) HRT0.out h)
        have HIN1 := Lib.hid (fun (W : World) (h : MLe m W.cell?) => show Calls Tryz.prog 44 #[.iface T1 y1] W (PlP t1 W) from IH.out _ (.inr (by simp)) _ m W (Nat.le_trans (WS_more (by simp)) HW.out) HRT1.out h)
        have HMR := Lib.hid (HM.out.trans (mle_below HBE.out))
        have HQ0 := Lib.hid hq0
        have HQ1 := Lib.hid hq1
        have c0q := HMR.out _ _ hq0
        have hbq := World.block_lt_of_cell? _ _ c0q
        have hbq' : q < wr.heap.size := hbq
        clear hrt0 hrt1 hq0 hq1 hq c0q hbq hd2 hm2
        go_wp2
        clear o0 o1 o2 o3 o4 o5 r0 r1 r2 r3 r4 r5 fr' fo' c1
        refine start_ (n := 13) (S := fun w' => w'.cell? ⟨q, 0, none⟩ = some (.iface T0 y0) ∧ w'.cell? ⟨q, 1, none⟩ = some (.iface T1 y1)) (ds := [12]) (lb 13 0) (by kernel_rfl) rfl rfl ⟨HMR.out _ _ HQ0.out, HMR.out _ _ HQ1.out⟩ (fun hHeld => ?_)
        refine pure_ (i := 0) (N := some 105) (v := ?_) (a' := ?_) (lb 13 1) rfl rfl (by kernel_rfl) (fun _ _ _ h => h) (Or.inl ⟨by rfl, ?_⟩) ?_ ?_
        rotate_left
        · intro w'
          go_simp
          with_reducible rfl
        rotate_left
        · simp only [Act.put, nrA, nrB, nrC, i64_w, i32_w]
          rfl
        refine pure_ (i := 1) (N := some 106) (v := ?_) (a' := ?_) (lb 13 3) rfl rfl (by kernel_rfl) (fun _ _ _ h => h) (Or.inl ⟨by rfl, ?_⟩) ?_ ?_
        rotate_left
        · intro w'
          go_simp
          with_reducible rfl
        rotate_left
        · simp only [Act.put, nrA, nrB, nrC, i64_w, i32_w]
          rfl
        refine pure_ (i := 2) (N := some 107) (v := ?_) (a' := ?_) (lb 13 7) rfl rfl (by kernel_rfl) (fun _ _ _ h => h) (Or.inl ⟨by rfl, ?_⟩) ?_ ?_
        rotate_left
        · intro w'
          go_simp
          with_reducible rfl
        rotate_left
        · simp only [Act.put, nrA, nrB, nrC, i64_w, i32_w]
          rfl
        refine pure_ (i := 5) (N := some 110) (v := ?_) (a' := ?_) (lb 13 39) rfl rfl (by kernel_rfl) (fun _ _ _ h => h) (Or.inl ⟨by rfl, ?_⟩) ?_ ?_
        rotate_left
        · intro w'
          go_simp
          with_reducible rfl
        rotate_left
        · simp only [Act.put, nrA, nrB, nrC, i64_w, i32_w]
          rfl
        refine pure_ (i := 6) (N := some 111) (v := ?_) (a' := ?_) (lb 13 103) rfl rfl (by kernel_rfl) (fun _ _ _ h => h) (Or.inl ⟨by rfl, ?_⟩) ?_ ?_
        rotate_left
        · intro w'
          go_simp
          with_reducible rfl
        rotate_left
        · simp only [Act.put, nrA, nrB, nrC, i64_w, i32_w]
          rfl
        refine pure_ (i := 7) (N := some 112) (v := ?_) (a' := ?_) (lb 13 231) rfl rfl (by kernel_rfl) (fun _ _ _ h => h) (Or.inl ⟨by rfl, ?_⟩) ?_ ?_
        rotate_left
        · intro w'
          go_simp
          with_reducible rfl
        rotate_left
        · simp only [Act.put, nrA, nrB, nrC, i64_w, i32_w]
          rfl
        refine take_ (i := 3) (N := some 108) (v := ?_) (a' := ?_) (lb 13 239) rfl rfl (by kernel_rfl) (fun _ _ _ h => h) (Or.inl ⟨by rfl, ?_⟩) hHeld ?_ ?_
        rotate_left
        · rintro w' ⟨s0, s1⟩
          go_simp
          with_reducible rfl
        rotate_left
        · simp only [Act.put, nrA, nrB, nrC, i64_w, i32_w]
          rfl
        refine take_ (i := 8) (N := some 113) (v := ?_) (a' := ?_) (lb 13 495) rfl rfl (by kernel_rfl) (fun _ _ _ h => h) (Or.inl ⟨by rfl, ?_⟩) hHeld ?_ ?_
        rotate_left
        · rintro w' ⟨s0, s1⟩
          go_simp
          with_reducible rfl
        rotate_left
        · simp only [Act.put, nrA, nrB, nrC, i64_w, i32_w]
          rfl
        refine one_ (i := 4) (N := some 109) (lb 13 511) rfl rfl (by kernel_rfl) (by decide) (fun K hK => ?_)
        refine goes_ Tryz.func44 (by kernel_rfl) rfl #[.iface T0 y0] (by rfl) rfl rfl (by simp only [List.map_toArray, List.map_cons, List.map_nil]; rfl) ?_
        with_reducible refine (HIN0.out _ (mle_drew HMR.out)).mono ?_
        rintro e w1 ⟨ak0, nk0, ck0, a10, n10, c10, a20, n20, c20, rfl, hmv0, hbl0⟩
        refine ⟨_, rfl, ?_⟩
        refine hK.out _ _ ⟨(mle_below hbl0) _ _ (HMR.out _ _ HQ0.out), (mle_below hbl0) _ _ (HMR.out _ _ HQ1.out)⟩ (fun hHeld => ?_)
        clear hK K
        refine norm_ (a' := ?_) ?_ ?_
        rotate_left
        · show Act.put _ (some 109) _ = _
          simp only [Act.put, nrA, nrB, nrC, i64_w, i32_w]
          rfl
        refine one_ (i := 9) (N := some 114) (lb 13 1023) rfl rfl (by kernel_rfl) (by decide) (fun K hK => ?_)
        refine goes_ Tryz.func44 (by kernel_rfl) rfl #[.iface T1 y1] (by rfl) rfl rfl (by simp only [List.map_toArray, List.map_cons, List.map_nil]; rfl) ?_
        with_reducible refine (HIN1.out _ ((mle_drew HMR.out).trans (mle_below hbl0))).mono ?_
        rintro e w2 ⟨ak1, nk1, ck1, a11, n11, c11, a21, n21, c21, rfl, hmv1, hbl1⟩
        refine ⟨_, rfl, ?_⟩
        refine hK.out _ _ ⟨(mle_below hbl1) _ _ ((mle_below hbl0) _ _ (HMR.out _ _ HQ0.out)), (mle_below hbl1) _ _ ((mle_below hbl0) _ _ (HMR.out _ _ HQ1.out))⟩ (fun hHeld => ?_)
        clear hK K
        refine norm_ (a' := ?_) ?_ ?_
        rotate_left
        · show Act.put _ (some 114) _ = _
          simp only [Act.put, nrA, nrB, nrC, i64_w, i32_w]
          rfl
        refine one_ (i := 10) (N := some 115) (lb 13 2047) rfl rfl (by kernel_rfl) (by decide) (fun K hK => ?_)
        refine value_ (w1 := ?_) (v := ?_) (by rfl) rfl ?_ ?_
        rotate_left 2
        · go_simp
          constructor
          · rfl
          · rfl
        refine hK.out _ _ ⟨((Gr.refl w2).alloc _).cell ((mle_below hbl1) _ _ ((mle_below hbl0) _ _ (HMR.out _ _ HQ0.out))), ((Gr.refl w2).alloc _).cell ((mle_below hbl1) _ _ ((mle_below hbl0) _ _ (HMR.out _ _ HQ1.out)))⟩ (fun hHeld => ?_)
        clear hK K
        refine norm_ (a' := ?_) ?_ ?_
        rotate_left
        · show Act.put _ (some 115) _ = _
          simp only [Act.put, nrA, nrB, nrC, i64_w, i32_w]
          rfl
        refine pure_ (i := 11) (N := some 116) (v := ?_) (a' := ?_) (lb 13 4095) rfl rfl (by kernel_rfl) (fun _ _ _ h => h) (Or.inl ⟨by rfl, ?_⟩) ?_ ?_
        rotate_left
        · intro w'
          go_simp
          with_reducible rfl
        rotate_left
        · simp only [Act.put, nrA, nrB, nrC, i64_w, i32_w]
          rfl
        refine last_ (i := 12) (N := none) (lb 13 8191) rfl rfl (by kernel_rfl) (by decide) (fun K hK => ?_)
        have hB5 := al_old (o := .cells #[.int .i64 t0.kind, .string ⟨#[]⟩, .string ⟨#[]⟩, .slice ak0 nk0 ck0, .slice a10 n10 c10, .slice a20 n20 c20, .int .i64 t1.kind, .string ⟨#[]⟩, .string ⟨#[]⟩, .slice ak1 nk1 ck1, .slice a11 n11 c11, .slice a21 n21 c21] 25) (bl_heap hbl1 (bl_heap hbl0 (show wr.drew.heap[w.heap.size + 1]? = _ from HH2.out)))
        have c5 := cell_blk hB5 5 rfl
        have f5 := froz_blk hB5 5
        refine skip_ (w1 := ?_) (by rfl) rfl ?_ ?_
        rotate_left
        · go_simp
          rfl
        refine hK.out _ _ ?_
        clear hK K
        refine done_ (by kernel_rfl) ?_
        have hX5 := al_old (o := .cells #[.int .i64 t0.kind, .string ⟨#[]⟩, .string ⟨#[]⟩, .slice ak0 nk0 ck0, .slice a10 n10 c10, .slice a20 n20 c20, .int .i64 t1.kind, .string ⟨#[]⟩, .string ⟨#[]⟩, .slice ak1 nk1 ck1, .slice a11 n11 c11, .slice a21 n21 c21] 25) (bl_heap hbl1 (bl_heap hbl0 (show wr.drew.heap[w.heap.size]? = _ from HH1.out)))
        have hs1 := hbl0.size
        have hs2 := hbl1.size
        simp at hs1
        have hBX := set_blk hB5 5 (.slice (some ⟨w2.heap.size, 0, none⟩) 2 2)
        have hXX := set_old (p := ⟨w.heap.size + 1, 5, none⟩) (u := .slice (some ⟨w2.heap.size, 0, none⟩) 2 2) hX5 (show w.heap.size ≠ w.heap.size + 1 by omega)
        have hCX := set_old (p := ⟨w.heap.size + 1, 5, none⟩) (u := .slice (some ⟨w2.heap.size, 0, none⟩) 2 2) (al_new (w := w2) (o := .cells #[.int .i64 t0.kind, .string ⟨#[]⟩, .string ⟨#[]⟩, .slice ak0 nk0 ck0, .slice a10 n10 c10, .slice a20 n20 c20, .int .i64 t1.kind, .string ⟨#[]⟩, .string ⟨#[]⟩, .slice ak1 nk1 ck1, .slice a11 n11 c11, .slice a21 n21 c21] 25) rfl) (show w2.heap.size ≠ w.heap.size + 1 by omega)
        have hXB := (bl_alloc (bl_trans (bl_trans HBE.out.drew hbl0) hbl1) (.cells #[.int .i64 t0.kind, .string ⟨#[]⟩, .string ⟨#[]⟩, .slice ak0 nk0 ck0, .slice a10 n10 c10, .slice a20 n20 c20, .int .i64 t1.kind, .string ⟨#[]⟩, .string ⟨#[]⟩, .slice ak1 nk1 ck1, .slice a11 n11 c11, .slice a21 n21 c21] 25)).setCell (p := ⟨w.heap.size + 1, 5, none⟩) (show w.heap.size ≤ w.heap.size + 1 by omega) (.slice (some ⟨w2.heap.size, 0, none⟩) 2 2)
        have hkeep2 : ∀ k, k ≠ w.heap.size + 1 → k < w2.heap.size → ((w2.alloc (.cells #[.int .i64 t0.kind, .string ⟨#[]⟩, .string ⟨#[]⟩, .slice ak0 nk0 ck0, .slice a10 n10 c10, .slice a20 n20 c20, .int .i64 t1.kind, .string ⟨#[]⟩, .string ⟨#[]⟩, .slice ak1 nk1 ck1, .slice a11 n11 c11, .slice a21 n21 c21] 25)).setCell ⟨w.heap.size + 1, 5, none⟩ (.slice (some ⟨w2.heap.size, 0, none⟩) 2 2)).heap[k]? = w2.heap[k]? := fun k h1 h2 => by
          rw [Below.heap_setCell _ _ _ k h1, Below.heap_alloc _ _ k h2]
        have hm0 : MIT (fr m0 (w.heap.size + 2) ((w2.alloc (.cells #[.int .i64 t0.kind, .string ⟨#[]⟩, .string ⟨#[]⟩, .slice ak0 nk0 ck0, .slice a10 n10 c10, .slice a20 n20 c20, .int .i64 t1.kind, .string ⟨#[]⟩, .string ⟨#[]⟩, .slice ak1 nk1 ck1, .slice a11 n11 c11, .slice a21 n21 c21] 25)).setCell ⟨w.heap.size + 1, 5, none⟩ (.slice (some ⟨w2.heap.size, 0, none⟩) 2 2)) none) _ (toI t0) := hmv0.mono (fr_deep (lo_m0 _) (show w.heap.size + 2 ≤ wr.drew.heap.size by show w.heap.size + 2 ≤ wr.heap.size; omega) (fun k e => by cases e) (fun k h1 h2 _ => by
          rw [hkeep2 k (by change wr.heap.size ≤ k at h1; omega) (by omega)]; exact hbl1.block k h2) (.inl rfl))
        have hm1 : MIT (fr m0 (w.heap.size + 2) ((w2.alloc (.cells #[.int .i64 t0.kind, .string ⟨#[]⟩, .string ⟨#[]⟩, .slice ak0 nk0 ck0, .slice a10 n10 c10, .slice a20 n20 c20, .int .i64 t1.kind, .string ⟨#[]⟩, .string ⟨#[]⟩, .slice ak1 nk1 ck1, .slice a11 n11 c11, .slice a21 n21 c21] 25)).setCell ⟨w.heap.size + 1, 5, none⟩ (.slice (some ⟨w2.heap.size, 0, none⟩) 2 2)) none) _ (toI t1) := hmv1.mono (fr_deep (lo_m0 _) (show w.heap.size + 2 ≤ w1.heap.size by omega) (fun k e => by cases e) (fun k h1 h2 _ => hkeep2 k (by omega) h2) (.inl rfl))
        have hkeep : ∀ k, w.heap.size + 2 ≤ k → k < wr.heap.size → _ = wr.heap[k]? := fun k h1 h2 => (hkeep2 k (by omega) (by omega)).trans ((hbl1.block k (by omega)).trans (hbl0.block k h2))
        have hXs : ((w2.alloc (.cells #[.int .i64 t0.kind, .string ⟨#[]⟩, .string ⟨#[]⟩, .slice ak0 nk0 ck0, .slice a10 n10 c10, .slice a20 n20 c20, .int .i64 t1.kind, .string ⟨#[]⟩, .string ⟨#[]⟩, .slice ak1 nk1 ck1, .slice a11 n11 c11, .slice a21 n21 c21] 25)).setCell ⟨w.heap.size + 1, 5, none⟩ (.slice (some ⟨w2.heap.size, 0, none⟩) 2 2)).heap.size = w2.heap.size + 1 := by simp
        clear hkeep2 hB5 hX5 c5 f5
        generalize ((w2.alloc (.cells #[.int .i64 t0.kind, .string ⟨#[]⟩, .string ⟨#[]⟩, .slice ak0 nk0 ck0, .slice a10 n10 c10, .slice a20 n20 c20, .int .i64 t1.kind, .string ⟨#[]⟩, .string ⟨#[]⟩, .slice ak1 nk1 ck1, .slice a11 n11 c11, .slice a21 n21 c21] 25)).setCell ⟨w.heap.size + 1, 5, none⟩ (.slice (some ⟨w2.heap.size, 0, none⟩) 2 2)) = X at hBX hXX hCX hXB hm0 hm1 hkeep hXs ⊢
        have ROWM := Lib.hid (rowIT_two hm0 hm1 rfl rfl (fun j u hj => by
          unfold fr
          rw [if_pos (show w.heap.size + 2 ≤ w2.heap.size by omega), if_neg (by simp)]
          exact ucell_blk hCX j (by simpa using hj)))
        have ROWK2 := Lib.hid (ROWK.out.mono (fr_lower (w' := X) (lo_m0 _) (Nat.le_refl _) hkeep))
        have ROWC2 := Lib.hid (ROWC.out.mono (fr_lower (w' := X) (lo_m0 _) (Nat.le_refl _) hkeep))
        have HXB := Lib.hid hXB
        have HKL2 := Lib.hid (show kids.length = (ks.map kyOf).length by simpa using HKL.out.symm)
        obtain ⟨o0, o1, o2, o3, o4, o5⟩ := cells6 hBX
        obtain ⟨r0, r1, r2, r3, r4, r5⟩ := cells6 hXX
        have fr' := froz_blk hXX
        have hy1 := lt_blk hBX
        have hy0 := lt_blk hXX
        clear hBX hXX hCX hXB hm0 hm1 hkeep
        go_wp2
        refine bodyPost_ret (v := .agg #[.int .i64 6, .string ⟨#[]⟩, .string ⟨#[]⟩, .slice ak kids.length ck, .slice a' kids.length c', .slice (some ⟨w2.heap.size, 0, none⟩) 2 2]) (by simp [results, Tryz.results44, go_sem, r0, r1, r2, r3, r4, r5, hy0, fr']) rfl ⟨_, _, _, _, _, _, _, _, _, rfl, ?_, ?_⟩
        · have hk6 : ∀ k, w.heap.size + 2 ≤ k → k < X.heap.size → ∀ (u1 u2 u3 u4 u5 u6 : Value), (((((((X.setCell ⟨w.heap.size, 0, none⟩ u1).setCell ⟨w.heap.size, 1, none⟩ u2).setCell ⟨w.heap.size, 2, none⟩ u3).setCell ⟨w.heap.size, 3, none⟩ u4).setCell ⟨w.heap.size, 4, none⟩ u5).setCell ⟨w.heap.size, 5, none⟩ u6).heap[k]?) = X.heap[k]? := fun k h1 h2 u1 u2 u3 u4 u5 u6 => by
            repeat rw [Below.heap_setCell _ _ _ k (show k ≠ w.heap.size from by omega)]
          have hup := fun (u1 u2 u3 u4 u5 u6 : Value) => fr_lower (m := m0) (lo_m0 _) (show w.heap.size ≤ w.heap.size + 2 by omega) (fun k h1 h2 => hk6 k h1 h2 u1 u2 u3 u4 u5 u6)
          exact mit_mk HKL2.out rfl rfl LKK.out LKC.out ⟨Nat.le_refl _, by decide⟩ (ROWK2.out.mono (hup _ _ _ _ _ _)) (ROWC2.out.mono (hup _ _ _ _ _ _)) (ROWM.out.mono (hup _ _ _ _ _ _))
        · have hle : w.heap.size ≤ w.heap.size := Nat.le_refl _
          exact (((((HXB.out.setCell hle _).setCell hle _).setCell hle _).setCell hle _).setCell hle _).setCell hle _
end Go.Proofs.YtaglgokeejjagaaGreat
/- 'plain', whole. -/
namespace Go.Proofs.YtaglgokeejjagaaGreat
set_option linter.unusedVariables false
set_option linter.unusedSimpArgs false
open Go.RowKit Go.Sort

set_option maxHeartbeats 2000000 in
set_option maxRecDepth 100000 in
theorem pl_set {m : Mem} {w : World} {b : Nat} {x : Value} {t : ST} (IH : Hid (PlOk t)) (hw : WS (.mk 7 [] [t] []) ≤ 1000000000) (h0 : m ⟨b, 0, none⟩ = some x) (e : RT m x t) (hm : MLe m w.cell?) :
    Calls Tryz.prog 44 #[.iface 108 (.pointer (some ⟨b, 0, none⟩))] w (PlP (.mk 7 [] [t] []) w) := by
  obtain ⟨T, y, rfl⟩ := e.shape
  have HE := Lib.hid e
  have HM := Lib.hid hm
  have HW := Lib.hid (Nat.le_trans (WS_kid (kd := 7) (ks := []) (kids := [t]) (more := []) (List.mem_singleton.2 rfl)) hw)
  have c0 := hm _ _ h0
  have hbw : b < w.heap.size := World.block_lt_of_cell? _ _ c0
  clear e hm h0 hw
  go_enter Tryz.func44, Tryz.ntmps44
  go_wp2_with (first | (go_at_call 44; refine (IH.out _ _ _ HW.out HE.out (mle_alloc HM.out _)).mono ?_; rintro e w2 ⟨ak, nk, ck, a1, n1, c1, a2, n2, c2, rfl, hmv, hbl⟩; have HB := bl_heap hbl (al_new rfl); obtain ⟨r0, r1, r2, r3, r4, r5⟩ := cells6 HB; have fr' := froz_blk HB; have hs := lt_blk HB; have HMV := Lib.hid hmv; have HBL := Lib.hid hbl; have HHB := Lib.hid HB; clear HB hmv hbl) | go_in)
  refine bodyPost_ret (v := .agg #[.int .i64 7, .string ⟨#[]⟩, .string ⟨#[]⟩, .slice none 0 0, .slice (some ⟨w2.heap.size, 0, none⟩) 1 1, .slice none 0 0]) (by simp [results, Tryz.results44, go_sem, r0, r1, r2, r3, r4, r5, hs, fr']) rfl ⟨_, _, _, _, _, _, _, _, _, rfl, ?_, ?_⟩
  · have hs1 := HBL.out.size
    simp at hs1
    have hk6 : ∀ k, w.heap.size + 1 ≤ k → k < w2.heap.size → ∀ (u1 u2 u3 u4 u5 u6 : Value) (o : Obj), ((((((((w2.setCell ⟨w.heap.size, 0, none⟩ u1).setCell ⟨w.heap.size, 1, none⟩ u2).setCell ⟨w.heap.size, 2, none⟩ u3).setCell ⟨w.heap.size, 3, none⟩ u4).setCell ⟨w.heap.size, 4, none⟩ u5).setCell ⟨w.heap.size, 5, none⟩ u6).alloc o).heap[k]?) = w2.heap[k]? := fun k h1 h2 u1 u2 u3 u4 u5 u6 o => by
      rw [Below.heap_alloc _ _ k (by simpa using h2)]
      repeat rw [Below.heap_setCell _ _ _ k (show k ≠ w.heap.size from by omega)]
    refine mit_mk rfl rfl rfl len0 ⟨Nat.le_refl _, by decide⟩ len0 (rowKn _ _) ?_ (rowIT_nil _ _)
    refine rowIT_one (HMV.out.mono (fr_deep (lo_m0 _) (by simp) (fun k e => by cases e) (fun k h1 h2 _ => hk6 k (by simpa using h1) h2 _ _ _ _ _ _ _) (.inl rfl))) (fun j u hj => ?_)
    unfold fr
    rw [if_pos (show w.heap.size ≤ w2.heap.size by omega), if_neg (by simp)]
    exact ucell_blk (al_new (by simp)) j (by simpa using hj)
  · have hle : w.heap.size ≤ w.heap.size := Nat.le_refl _
    refine bl_alloc ?_ _
    exact (((((((bl_trans (bl_alloc (Below.refl _ _) _) HBL.out)).setCell hle _).setCell hle _).setCell hle _).setCell hle _).setCell hle _).setCell hle _

def PlsP (l : List ST) (w : World) (e : Ending) (w' : World) : Prop := ∃ a c, e = .returned (.slice a l.length c) ∧ lenOk l.length c ∧ RowIT (fr m0 w.heap.size w' none) a (l.map toI) ∧ Below w.heap.size w w'
set_option maxHeartbeats 2000000 in
set_option maxRecDepth 100000 in
theorem plains_any {m : Mem} {w : World} {a : Option Addr} {c : Nat} {xs : List Value} {kids : List ST} (IH : Hid (∀ k ∈ kids, PlOk k)) (hw : ∀ k ∈ kids, WS k ≤ 1000000000) (hn : kids.length ≤ 1000000000) (lk : lenOk kids.length c) (hl : xs.length = kids.length) (r : RowX m a xs)
      (e : ∀ i (h1 : i < xs.length) (h2 : i < kids.length), RT m xs[i] kids[i]) (hm : MLe m w.cell?) : Calls Tryz.prog 63 #[.slice a kids.length c] w (PlsP kids w) := by
  obtain ⟨l1, l2⟩ := lk
  have HR := Lib.hid r
  have HE := Lib.hid e
  have HM := Lib.hid hm
  have HL := Lib.hid hl
  have HW := Lib.hid hw
  have HN := Lib.hid hn
  clear r e hm hl hw hn
  go_enter Tryz.func63, Tryz.ntmps63
  go_wp2
  go_loopw [3, 8] (fun v i wr => ∃ k : Nat, k ≤ kids.length ∧ i = .int .i64 k ∧ Hid (Own MIT m0 25 6 w.heap.size wr v ((kids.take k).map toI) ∧ Below w.heap.size w wr)) (fun _ i _ => kids.length - (intOf i).toNat)
  case atStart => exact ⟨0, Nat.zero_le _, rfl, Own.nil .., Below.refl _ _⟩
  case round =>
    obtain ⟨k, hk, rfl, hI⟩ := hrel
    by_cases hlt : k < kids.length
    · have hm1 := HM.out.trans (mle_below hI.out.2)
      have hkx : k < xs.length := by have := HL.out; omega
      obtain ⟨rb, off, ea, hx0⟩ := HR.out.at hkx
      subst ea
      have HXR := Lib.hid (HE.out k hkx hlt)
      obtain ⟨Tk, yk, hxs⟩ := HXR.out.shape
      have HSH := Lib.hid hxs
      have z0 := hm1 _ _ hx0
      rw [hxs] at z0
      have HM1 := Lib.hid hm1
      have HIN := Lib.hid (fun (W : World) (h : MLe m W.cell?) => show Calls Tryz.prog 44 #[.iface Tk yk] W (PlP kids[k] W) from IH.out _ (List.getElem_mem hlt) _ m W (HW.out _ (List.getElem_mem hlt)) (by rw [← HSH.out]; exact HXR.out) h)
      clear hxs hx0 hm1
      go_wp2_with (first | (go_at_call 44; refine (HIN.out _ HM1.out).mono ?_; rintro e w2 ⟨ak', nk', ck', a1', n1', c1', a2', n2', c2', rfl, hmv, hbl⟩; have HMV := Lib.hid hmv; have HBL := Lib.hid hbl; clear hmv hbl) | (at_builtin; refine wpList_snoc em_IT rfl _ _ _ rfl rfl _ _ rfl (Snoc.call em_IT hI.out.1 (lo_m0 _) (Below.refl _ _) HBL.out HMV.out sl23 rfl (by simp [Value.oneCell']) (by have := HN.out; simp; omega) (by have := HN.out; simp [maxLen]; omega) hI.out.2.size) ?_; intro g' cap w5 hown5 hg5 hv5 hgg5))
      go_roundw
      case rel =>
        have el : ((kids.take k).map toI).length = k := by simp; omega
        have ek : (kids.take (k + 1)).map toI = (kids.take k).map toI ++ [toI kids[k]] := by rw [List.take_succ_eq_append_getElem hlt, List.map_append, List.map_cons, List.map_nil]
        rw [← ek] at hown5
        refine ⟨k + 1, by omega, by go_num, ?_, bl_grown (bl_alloc (bl_trans hI.out.2 HBL.out) _) hg5 (fun k' e => hv5 k' e)⟩
        simp only [List.length_map, List.length_take, Nat.min_eq_left (Nat.le_of_lt hlt)] at hown5
        exact hown5
      case measure => simp [intOf]; omega
    · obtain rfl : k = kids.length := by omega
      obtain ⟨hown, hb⟩ := hI.out
      rw [List.take_length] at hown
      obtain ⟨a', c', rfl, lok, row⟩ := hown.rowIT
      have HB := Lib.hid hb
      have ROW := Lib.hid row
      have LOK := Lib.hid lok
      clear hown hb row lok hI
      go_wp2
      go_ret
      refine ⟨a', c', by simp, by have := LOK.out; simpa using this, ROW.out, HB.out⟩

set_option maxHeartbeats 2000000 in
set_option maxRecDepth 100000 in
theorem pl_any {m : Mem} {w : World} {a : Option Addr} {c : Nat} {xs : List Value} {kids : List ST} (IH : Hid (∀ k ∈ kids, PlOk k)) (hw : WS (.mk 8 [] kids []) ≤ 1000000000) (lk : lenOk kids.length c) (hl : xs.length = kids.length) (r : RowX m a xs)
      (e : ∀ i (h1 : i < xs.length) (h2 : i < kids.length), RT m xs[i] kids[i]) (hm : MLe m w.cell?) :
    Calls Tryz.prog 44 #[.iface 110 (.slice a kids.length c)] w (PlP (.mk 8 [] kids []) w) := by
  have HM := Lib.hid hm
  have HC := Lib.hid (fun (W : World) (h : MLe m W.cell?) => plains_any (w := W) IH (fun k hk => Nat.le_trans (WS_kid (kd := 8) (ks := []) (more := []) hk) hw) (Nat.le_trans (WS_lens 8 [] kids []).2.1 hw) lk hl r e h)
  clear hw lk hl r e hm
  go_enter Tryz.func44, Tryz.ntmps44
  go_wp2_with (first | (go_at_call 63; refine (HC.out _ (mle_alloc HM.out _)).mono ?_; rintro e w2 ⟨a1, c1, rfl, lok, row, hbl⟩; have HB := bl_heap hbl (al_new rfl); obtain ⟨r0, r1, r2, r3, r4, r5⟩ := cells6 HB; have fr' := froz_blk HB; have hs := lt_blk HB; have ROW := Lib.hid row; have LOK := Lib.hid lok; have HBL := Lib.hid hbl; clear HB row lok hbl) | go_in)
  refine bodyPost_ret (v := .agg #[.int .i64 8, .string ⟨#[]⟩, .string ⟨#[]⟩, .slice none 0 0, .slice a1 kids.length c1, .slice none 0 0]) (by simp [results, Tryz.results44, go_sem, r0, r1, r2, r3, r4, r5, hs, fr']) rfl ⟨_, _, _, _, _, _, _, _, _, rfl, ?_, ?_⟩
  · have hs1 := HBL.out.size
    simp at hs1
    have hk6 : ∀ k, w.heap.size + 1 ≤ k → k < w2.heap.size → ∀ (u1 u2 u3 u4 u5 u6 : Value), (((((((w2.setCell ⟨w.heap.size, 0, none⟩ u1).setCell ⟨w.heap.size, 1, none⟩ u2).setCell ⟨w.heap.size, 2, none⟩ u3).setCell ⟨w.heap.size, 3, none⟩ u4).setCell ⟨w.heap.size, 4, none⟩ u5).setCell ⟨w.heap.size, 5, none⟩ u6).heap[k]?) = w2.heap[k]? := fun k h1 h2 u1 u2 u3 u4 u5 u6 => by
      repeat rw [Below.heap_setCell _ _ _ k (show k ≠ w.heap.size from by omega)]
    have hrow := ROW.out
    simp only [World.size_alloc] at hrow
    refine mit_mk rfl rfl rfl len0 LOK.out len0 (rowKn _ _) (hrow.mono (fr_lower (lo_m0 _) (by omega) (fun k h1 h2 => hk6 k (by simpa using h1) h2 _ _ _ _ _ _))) (rowIT_nil _ _)
  · have hle : w.heap.size ≤ w.heap.size := Nat.le_refl _
    exact (((((((bl_trans (bl_alloc (Below.refl _ _) _) HBL.out)).setCell hle _).setCell hle _).setCell hle _).setCell hle _).setCell hle _).setCell hle _

theorem pl_n (n : Nat) : ∀ t, SizeOf.sizeOf t < n → PlOk t := by
  induction n with
  | zero => intro t h; exact absurd h (Nat.not_lt_zero _)
  | succ n ih =>
    intro t hn x m w hw hr hm
    cases hr with
    | null => exact pl_1
    | bool => exact pl_2
    | num => exact pl_3
    | str => exact pl_4
    | @arr b c a xs ds kids more h0 h1 lk hl r e hd h2 e2 => exact pl_arr (Lib.hid fun k hk => ih k (by rcases hk with h | h; exact Nat.lt_of_lt_of_le (ST.lt_kid h) (Nat.le_of_lt_succ hn); exact Nat.lt_of_lt_of_le (ST.lt_more h) (Nat.le_of_lt_succ hn))) hw h0 h1 lk hl r e hd h2 e2 hm
    | @obj b c a ps xs ks kids dv ds more h0 h1 lk hp hx hk r e0 e1 e so hd e2 => exact pl_obj (Lib.hid fun k hk => ih k (by rcases hk with h | h; exact Nat.lt_of_lt_of_le (ST.lt_kid h) (Nat.le_of_lt_succ hn); exact Nat.lt_of_lt_of_le (ST.lt_more h) (Nat.le_of_lt_succ hn))) hw h0 h1 lk hp hx hk r e0 e1 e hd e2 hm
    | @set b x t h0 e => exact pl_set (Lib.hid (ih t (Nat.lt_of_lt_of_le (ST.lt_kid (by simp)) (Nat.le_of_lt_succ hn)))) hw h0 e hm
    | @any c a xs kids lk hl r e => exact pl_any (Lib.hid fun k hk => ih k (Nat.lt_of_lt_of_le (ST.lt_kid hk) (Nat.le_of_lt_succ hn))) hw lk hl r e hm
theorem plain_any (t : ST) : PlOk t := pl_n _ t (Nat.lt_succ_self _)
end Go.Proofs.YtaglgokeejjagaaGreat
namespace Go.Proofs.YtaglgokeejjagaaGreat
set_option linter.unusedVariables false
set_option linter.unusedSimpArgs false
open Go.RowKit Go.Sort

theorem mle_m0 (f : Mem) : MLe m0 f := fun a x h => by cases h

end Go.Proofs.YtaglgokeejjagaaGreat
