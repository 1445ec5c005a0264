/- 'plain' lays a type as plain data: the types without parts, and arrays. -/
import Derived.Test.YtaglgokeejjagaaGreatTyC
import Derived.Test.YtaglgokeejjagaaGreatPure1
import Derived.Test.YtaglgokeejjagaaGreatWLast
namespace Go.Proofs.YtaglgokeejjagaaGreat
set_option linter.unusedVariables false
set_option linter.unusedSimpArgs false
open Go.RowKit Go.Sort Go.Proofs.YtaglgokeejjagaaGreatW.PrintLast

/-- A type with no name and no text. -/
def toI : ST → IT
  | .mk kd ks kids more => .mk kd ⟨#[]⟩ ⟨#[]⟩ ks (kids.map toI) (more.map toI)
termination_by t => SizeOf.sizeOf t
decreasing_by
  · exact ST.lt_kid (by assumption)
  · exact ST.lt_more (by assumption)
theorem toI_eq (kd : Int) (ks : List Ky) (kids more : List ST) : toI (.mk kd ks kids more) = .mk kd ⟨#[]⟩ ⟨#[]⟩ ks (kids.map toI) (more.map toI) := by rw [toI]

def PlP (t : ST) (w : World) (e : Ending) (w' : World) : Prop :=
  ∃ ak nk ck a1 n1 c1 a2 n2 c2, e = .returned (.agg #[.int .i64 t.kind, .string ⟨#[]⟩, .string ⟨#[]⟩, .slice ak nk ck, .slice a1 n1 c1, .slice a2 n2 c2]) ∧ MIT (fr m0 w.heap.size w' none) (itCells t.kind ⟨#[]⟩ ⟨#[]⟩ ak nk ck a1 n1 c1 a2 n2 c2) (toI t) ∧ Below w.heap.size w w'
def PlOk (t : ST) : Prop := ∀ (x : Value) (m : Mem) (w : World), WS t ≤ 1000000000 → RT m x t → MLe m w.cell? → Calls Tryz.prog 44 #[x] w (PlP t w)

theorem len0 : lenOk 0 0 := ⟨Nat.le_refl _, by decide⟩
theorem rowKn (m : Mem) (a : Option Addr) : RowK m a [] := fun h => absurd h (Nat.lt_irrefl _)
theorem rowIT_nil (m : Mem) (a : Option Addr) : RowIT m a [] := ⟨fun _ => [], fun h => absurd h (Nat.lt_irrefl _), fun i h => absurd h (Nat.not_lt_zero _)⟩
theorem mit_flat (m : Mem) (kd : Int) : MIT m (itCells kd ⟨#[]⟩ ⟨#[]⟩ none 0 0 none 0 0 none 0 0) (toI (.mk kd [] [] [])) := by
  rw [toI_eq]
  exact MIT.close (ks := []) (kids := []) (more := []) len0 len0 len0 (rowKn _ _) (rowIT_nil _ _) (rowIT_nil _ _)

theorem WS_kid {kd : Int} {ks : List Ky} {kids more : List ST} {k : ST} (h : k ∈ kids) : WS k ≤ WS (.mk kd ks kids more) := by
  have := le_sum WS h
  rw [WS_eq (.mk kd ks kids more)]; simp only [ST.kids]; omega
theorem WS_more {kd : Int} {ks : List Ky} {kids more : List ST} {k : ST} (h : k ∈ more) : WS k ≤ WS (.mk kd ks kids more) := by
  have := le_sum WS h
  rw [WS_eq (.mk kd ks kids more)]; simp only [ST.more]; omega
theorem WS_lens (kd : Int) (ks : List Ky) (kids more : List ST) : ks.length ≤ WS (.mk kd ks kids more) ∧ kids.length ≤ WS (.mk kd ks kids more) ∧ more.length ≤ WS (.mk kd ks kids more) := by
  have := sum_ge WS WS_pos kids
  have := sum_ge WS WS_pos more
  rw [WS_eq]; simp only [ST.kids, ST.more, ST.keys]; omega
theorem RowX.at {m : Mem} {a : Option Addr} {xs : List Value} (h : RowX m a xs) {i : Nat} (hi : i < xs.length) : ∃ b off, a = some ⟨b, off, none⟩ ∧ m ⟨b, off + i, none⟩ = some xs[i] := by
  obtain ⟨b, off, e, hc⟩ := h (by omega)
  refine ⟨b, off, e, ?_⟩
  have := hc i hi 0 xs[i] (by show [xs.getD i default][0]? = _; rw [getD_eq _ _ hi]; rfl)
  simpa using this
theorem rowIT_one {m : Mem} {b : Nat} {cs : List Value} {t : IT} (h : MIT m cs t) (hc : ∀ j u, cs[j]? = some u → m ⟨b, j, none⟩ = some u) : RowIT m (some ⟨b, 0, none⟩) [t] :=
  ⟨fun _ => cs, fun _ => ⟨b, 0, rfl, fun i hi j u hu => by
    obtain rfl : i = 0 := by simpa using hi
    simpa using hc j u hu⟩, fun i hi => by
    obtain rfl : i = 0 := by simpa using hi
    exact h⟩

theorem mit_mk {m : Mem} {kd : Int} {ks : List Ky} {kids more : List ST} {ak a1 a2 : Option Addr} {nk ck n1 c1 n2 c2 : Nat} (e0 : nk = ks.length) (e1 : n1 = kids.length) (e2 : n2 = more.length) (lk : lenOk nk ck) (l1 : lenOk n1 c1) (l2 : lenOk n2 c2)
    (rk : RowK m ak ks) (r1 : RowIT m a1 (kids.map toI)) (r2 : RowIT m a2 (more.map toI)) : MIT m (itCells kd ⟨#[]⟩ ⟨#[]⟩ ak nk ck a1 n1 c1 a2 n2 c2) (toI (.mk kd ks kids more)) := by
  subst e0 e1 e2
  rw [toI_eq]
  have h1 : (kids.map toI).length = kids.length := by simp
  have h2 : (more.map toI).length = more.length := by simp
  have h := MIT.close (kd := kd) (nm := ⟨#[]⟩) (tx := ⟨#[]⟩) (ks := ks) (kids := kids.map toI) (more := more.map toI) lk (by rw [h1]; exact l1) (by rw [h2]; exact l2) rk r1 r2
  rw [h1, h2] at h
  exact h

set_option maxHeartbeats 2000000 in
set_option maxRecDepth 100000 in
theorem pl_1 {w : World} : Calls Tryz.prog 44 #[.iface 90 (.agg #[])] w (PlP (.mk 1 [] [] []) w) := by
  go_enter Tryz.func44, Tryz.ntmps44
  go_wp2
  refine bodyPost_ret (v := .agg #[.int .i64 1, .string ⟨#[]⟩, .string ⟨#[]⟩, .slice none 0 0, .slice none 0 0, .slice none 0 0]) (by simp [results, Tryz.results44, go_sem]) rfl ⟨_, _, _, _, _, _, _, _, _, rfl, mit_flat _ _, ?_⟩
  repeat (first | exact Below.refl _ _ | refine Below.setCell ?_ (by simp) _ | refine Below.alloc ?_ (by simp) _)
set_option maxHeartbeats 2000000 in
set_option maxRecDepth 100000 in
theorem pl_2 {w : World} : Calls Tryz.prog 44 #[.iface 91 (.agg #[])] w (PlP (.mk 2 [] [] []) w) := by
  go_enter Tryz.func44, Tryz.ntmps44
  go_wp2
  refine bodyPost_ret (v := .agg #[.int .i64 2, .string ⟨#[]⟩, .string ⟨#[]⟩, .slice none 0 0, .slice none 0 0, .slice none 0 0]) (by simp [results, Tryz.results44, go_sem]) rfl ⟨_, _, _, _, _, _, _, _, _, rfl, mit_flat _ _, ?_⟩
  repeat (first | exact Below.refl _ _ | refine Below.setCell ?_ (by simp) _ | refine Below.alloc ?_ (by simp) _)
set_option maxHeartbeats 2000000 in
set_option maxRecDepth 100000 in
theorem pl_3 {w : World} : Calls Tryz.prog 44 #[.iface 92 (.agg #[])] w (PlP (.mk 3 [] [] []) w) := by
  go_enter Tryz.func44, Tryz.ntmps44
  go_wp2
  refine bodyPost_ret (v := .agg #[.int .i64 3, .string ⟨#[]⟩, .string ⟨#[]⟩, .slice none 0 0, .slice none 0 0, .slice none 0 0]) (by simp [results, Tryz.results44, go_sem]) rfl ⟨_, _, _, _, _, _, _, _, _, rfl, mit_flat _ _, ?_⟩
  repeat (first | exact Below.refl _ _ | refine Below.setCell ?_ (by simp) _ | refine Below.alloc ?_ (by simp) _)
set_option maxHeartbeats 2000000 in
set_option maxRecDepth 100000 in
theorem pl_4 {w : World} : Calls Tryz.prog 44 #[.iface 93 (.agg #[])] w (PlP (.mk 4 [] [] []) w) := by
  go_enter Tryz.func44, Tryz.ntmps44
  go_wp2
  refine bodyPost_ret (v := .agg #[.int .i64 4, .string ⟨#[]⟩, .string ⟨#[]⟩, .slice none 0 0, .slice none 0 0, .slice none 0 0]) (by simp [results, Tryz.results44, go_sem]) rfl ⟨_, _, _, _, _, _, _, _, _, rfl, mit_flat _ _, ?_⟩
  repeat (first | exact Below.refl _ _ | refine Below.setCell ?_ (by simp) _ | refine Below.alloc ?_ (by simp) _)

theorem hnil (T : Nat) (y : Value) : True := trivial
def SelP (x : Value) (w : World) (e : Ending) (w' : World) : Prop := e = .returned x ∧ w' = w
set_option maxHeartbeats 1000000 in
set_option maxRecDepth 100000 in
theorem sel57 {b n c k rb off : Nat} {x : Value} {w : World} (h0 : w.cell? ⟨b, 0, none⟩ = some (.slice (some ⟨rb, off, none⟩) n c)) (hn : n ≤ c) (hc : c ≤ 9223372036854775807) (hk : k < n) (hx : w.cell? ⟨rb, off + k, none⟩ = some x) (hs : x = .nilIface ∨ ∃ T y, x = .iface T y) :
    Calls Tryz.prog 57 #[.pointer (some ⟨b, 0, none⟩), .int .i64 k] w (SelP x w) := by
  rcases hs with rfl | ⟨T, y, rfl⟩
  all_goals
    go_enter Tryz.func57, Tryz.ntmps57
    go_wp2
    go_ret
    exact ⟨rfl, rfl⟩

set_option maxHeartbeats 4000000 in
set_option maxRecDepth 100000 in
theorem pl_arr {m : Mem} {w : World} {b c : Nat} {a : Option Addr} {xs ds : List Value} {kids more : List ST} (IH : Hid (∀ k, k ∈ kids ∨ k ∈ more → PlOk k)) (hw : WS (.mk 5 [] kids more) ≤ 1000000000) (h0 : m ⟨b, 0, none⟩ = some (.slice a kids.length c)) (h1 : m ⟨b, 1, none⟩ = some (ds.headD .nilIface)) (lk : lenOk kids.length c) (hl : xs.length = kids.length)
      (r : RowX m a xs) (e : ∀ i (h1 : i < xs.length) (h2 : i < kids.length), RT m xs[i] kids[i]) (hd : ds.length = more.length) (h2 : more.length ≤ 1) (e2 : ∀ i (h1 : i < ds.length) (h2 : i < more.length), RT m ds[i] more[i]) (hm : MLe m w.cell?) :
    Calls Tryz.prog 44 #[.iface 94 (.pointer (some ⟨b, 0, none⟩))] w (PlP (.mk 5 [] kids more) w) := by
  obtain ⟨l1, l2⟩ := lk
  have HR := Lib.hid r
  have HE := Lib.hid e
  have HE2 := Lib.hid e2
  have HM := Lib.hid hm
  have HL := Lib.hid hl
  have HW := Lib.hid hw
  have HKN := Lib.hid (Nat.le_trans (WS_lens 5 [] kids more).2.1 hw)
  have HC0 := Lib.hid h0
  have HC1 := Lib.hid h1
  have c0 := hm _ _ h0
  have hbw := World.block_lt_of_cell? _ _ c0
  have hbw' : b < w.heap.size := hbw
  clear r e e2 hm hl hw h0 h1 hbw
  go_enter Tryz.func44, Tryz.ntmps44
  go_wp2
  clear c0
  go_loopw [44] (fun i wr => ∃ (k : Nat) (v : Value), k ≤ kids.length ∧ i = .int .i64 k ∧ Hid (
      wr.heap[w.heap.size]? = some (.cells #[.int .i64 0, .string ⟨#[]⟩, .string ⟨#[]⟩, .slice none 0 0, .slice none 0 0, .slice none 0 0] 25 (0, 0)) ∧
      wr.heap[w.heap.size + 1]? = some (.cells #[.int .i64 5, .string ⟨#[]⟩, .string ⟨#[]⟩, .slice none 0 0, v, .slice none 0 0] 25 (0, 0)) ∧
      Own MIT m0 25 6 (w.heap.size + 2) wr v ((kids.take k).map toI) ∧ Below w.heap.size w wr ∧ w.heap.size + 2 ≤ wr.heap.size)) (fun i _ => kids.length - (intOf i).toNat)
  case atStart =>
    refine ⟨0, .slice none 0 0, Nat.zero_le _, rfl, ?_, ?_, Own.nil .., ?_, ?_⟩
    · exact al_old (al_new (by simp))
    · exact al_new (by simp)
    · repeat (first | exact Below.refl _ _ | refine Below.alloc ?_ (by simp; try omega) _)
    · simp
  case round =>
    obtain ⟨k, v, hk, rfl, hI⟩ := hrel
    by_cases hlt : k < kids.length
    · have hm1 := HM.out.trans (mle_below hI.out.2.2.2.1)
      have hkx : k < xs.length := by have := HL.out; omega
      obtain ⟨rb, off, e0, hx0⟩ := HR.out.at hkx
      subst e0
      have HM1 := Lib.hid hm1
      have HXR := Lib.hid (HE.out k hkx hlt)
      have HXC := Lib.hid hx0
      obtain ⟨Tk, yk, hxs⟩ := HXR.out.shape
      have HSH := Lib.hid hxs
      have HSEL := Lib.hid (fun (W : World) (h : MLe m W.cell?) => show Calls Tryz.prog 57 #[.pointer (some ⟨b, 0, none⟩), .int .i64 k] W (SelP (.iface Tk yk) W) from sel57 (h _ _ HC0.out) l1 l2 hlt (by rw [← HSH.out]; exact h _ _ HXC.out) (.inr ⟨_, _, rfl⟩))
      have HIN := Lib.hid (fun (W : World) (h : MLe m W.cell?) => show Calls Tryz.prog 44 #[.iface Tk yk] W (PlP kids[k] W) from IH.out _ (.inl (List.getElem_mem hlt)) _ m W (Nat.le_trans (WS_kid (List.getElem_mem hlt)) HW.out) (by rw [← HSH.out]; exact HXR.out) h)
      have HV := Lib.hid (fun k' (e : v.ownBlock = some k') => (hI.out.2.2.1.lt k' e).2)
      clear hxs hx0 hm1
      go_wp2
      have HB := Lib.hid hI.out.2.1
      refine start_ (n := 10) (S := fun w' => w'.cell? ⟨w.heap.size + 1, 4, none⟩ = some v) (ds := [9]) #[false, false, false, false, false, false, false, false, false, false] (by kernel_rfl) rfl rfl (cell_blk HB.out 4 rfl) (fun hHeld => ?_)
      refine pure_ (i := 0) (N := some 47) (v := ?_) (a' := ?_) #[true, false, false, false, false, false, false, false, false, false] rfl rfl (by kernel_rfl) (fun _ _ _ h => h) (Or.inl ⟨by rfl, ?_⟩) ?_ ?_
      rotate_left
      · intro w'
        go_simp
        with_reducible rfl
      rotate_left
      · simp only [Act.put, List.setIfInBounds_toArray, List.set_cons_zero, List.set_cons_succ, i64_w, i32_w]
        rfl
      refine pure_ (i := 2) (N := some 49) (v := ?_) (a' := ?_) #[true, false, true, false, false, false, false, false, false, false] rfl rfl (by kernel_rfl) (fun _ _ _ h => h) (Or.inl ⟨by rfl, ?_⟩) ?_ ?_
      rotate_left
      · intro w'
        go_simp
        with_reducible rfl
      rotate_left
      · simp only [Act.put, List.setIfInBounds_toArray, List.set_cons_zero, List.set_cons_succ, i64_w, i32_w]
        rfl
      refine pure_ (i := 3) (N := some 50) (v := ?_) (a' := ?_) #[true, false, true, true, false, false, false, false, false, false] rfl rfl (by kernel_rfl) (fun _ _ _ h => h) (Or.inl ⟨by rfl, ?_⟩) ?_ ?_
      rotate_left
      · intro w'
        go_simp
        with_reducible rfl
      rotate_left
      · simp only [Act.put, List.setIfInBounds_toArray, List.set_cons_zero, List.set_cons_succ, i64_w, i32_w]
        rfl
      refine take_ (i := 1) (N := some 48) (v := ?_) (a' := ?_) #[true, true, true, true, false, false, false, false, false, false] rfl rfl (by kernel_rfl) (fun _ _ _ h => h) (Or.inl ⟨by rfl, ?_⟩) hHeld ?_ ?_
      rotate_left
      · intro w' s0
        go_simp
        with_reducible rfl
      rotate_left
      · simp only [Act.put, List.setIfInBounds_toArray, List.set_cons_zero, List.set_cons_succ, i64_w, i32_w]
        rfl
      refine one_ (i := 4) (N := some 51) #[true, true, true, true, true, false, false, false, false, false] rfl rfl (by kernel_rfl) (by decide) (fun K hK => ?_)
      refine goes_ Tryz.func57 (by kernel_rfl) rfl #[.pointer (some ⟨b, 0, none⟩), .int .i64 k] (by rfl) rfl rfl (by simp only [List.map_toArray, List.map_cons, List.map_nil]; rfl) ?_
      with_reducible refine (HSEL.out _ (mle_drew HM1.out)).mono ?_
      rintro e w1 ⟨rfl, rfl⟩
      refine ⟨_, rfl, ?_⟩
      refine hK.out _ _ (cell_blk HB.out 4 rfl) (fun hHeld => ?_)
      clear hK K
      refine norm_ (a' := ?_) ?_ ?_
      rotate_left
      · show Act.put _ (some 51) _ = _
        simp only [Act.put, List.setIfInBounds_toArray, List.set_cons_zero, List.set_cons_succ, i64_w, i32_w]
        rfl
      refine one_ (i := 5) (N := some 52) #[true, true, true, true, true, true, false, false, false, false] rfl rfl (by kernel_rfl) (by decide) (fun K hK => ?_)
      refine goes_ Tryz.func44 (by kernel_rfl) rfl #[.iface Tk yk] (by rfl) rfl rfl (by simp only [List.map_toArray, List.map_cons, List.map_nil]; rfl) ?_
      with_reducible refine (HIN.out _ (mle_drew HM1.out)).mono ?_
      rintro e w1 ⟨ak', nk', ck', a1', n1', c1', a2', n2', c2', rfl, hmv, hbl⟩
      refine ⟨_, rfl, ?_⟩
      refine hK.out _ _ (cell_blk (bl_heap hbl HB.out) 4 rfl) (fun hHeld => ?_)
      clear hK K
      refine norm_ (a' := ?_) ?_ ?_
      rotate_left
      · show Act.put _ (some 52) _ = _
        simp only [Act.put, List.setIfInBounds_toArray, List.set_cons_zero, List.set_cons_succ, i64_w, i32_w]
        rfl
      refine one_ (i := 6) (N := some 53) #[true, true, true, true, true, true, true, false, false, false] rfl rfl (by kernel_rfl) (by decide) (fun K hK => ?_)
      refine value_ (w1 := ?_) (v := ?_) (by rfl) rfl ?_ ?_
      rotate_left 2
      · go_simp
        constructor
        · rfl
        · rfl
      refine hK.out _ _ (cell_blk (al_old (bl_heap hbl HB.out)) 4 rfl) (fun hHeld => ?_)
      clear hK K
      refine norm_ (a' := ?_) ?_ ?_
      rotate_left
      · show Act.put _ (some 53) _ = _
        simp only [Act.put, List.setIfInBounds_toArray, List.set_cons_zero, List.set_cons_succ, i64_w, i32_w]
        rfl
      refine one_ (i := 7) (N := some 54) #[true, true, true, true, true, true, true, true, false, false] rfl rfl (by kernel_rfl) (by decide) (fun K hK => ?_)
      refine step_snoc em_IT rfl _ _ _ rfl rfl _ _ rfl (Snoc.call em_IT hI.out.2.2.1 (lo_m0 _) (Below.refl _ _).drew hbl hmv sl23 rfl (by simp [Value.oneCell']) (by have := HKN.out; simp; omega) (by have := HKN.out; simp [maxLen]; omega) hI.out.2.2.2.2) ?_
      intro g' cap w2 hown2 hg2 hv2 hgg
      have HB2 := grown_heap hg2 (al_old (bl_heap hbl HB.out)) (fun k' e => by have := hv2 k' e; omega)
      refine hK.out _ _ (cell_blk HB2 4 rfl) (fun hHeld => ?_)
      clear hK K
      refine norm_ (a' := ?_) ?_ ?_
      rotate_left
      · show Act.put _ (some 54) _ = _
        simp only [Act.put, List.setIfInBounds_toArray, List.set_cons_zero, List.set_cons_succ, i64_w, i32_w]
        rfl
      refine pure_ (i := 8) (N := some 55) (v := ?_) (a' := ?_) #[true, true, true, true, true, true, true, true, true, false] rfl rfl (by kernel_rfl) (fun _ _ _ h => h) (Or.inl ⟨by rfl, ?_⟩) ?_ ?_
      rotate_left
      · intro w'
        go_simp
        with_reducible rfl
      rotate_left
      · simp only [Act.put, List.setIfInBounds_toArray, List.set_cons_zero, List.set_cons_succ, i64_w, i32_w]
        rfl
      refine last_ (i := 9) (N := none) #[true, true, true, true, true, true, true, true, true, true] rfl rfl (by kernel_rfl) (by decide) (fun K hK => ?_)
      have c3 := cell_blk HB2 4 rfl
      have f3 := froz_blk HB2 4
      refine skip_ (w1 := ?_) (by rfl) rfl ?_ ?_
      rotate_left
      · go_simp
        rfl
      refine hK.out _ _ ?_
      clear hK K
      refine done_ (by kernel_rfl) ?_
      clear c3 f3
      have HS2 := lt_blk HB2
      go_wp2
      go_roundw
      case rel =>
        have el : ((kids.take k).map toI).length = k := by simp; omega
        have ek : (kids.take (k + 1)).map toI = (kids.take k).map toI ++ [toI kids[k]] := by rw [List.take_succ_eq_append_getElem hlt, List.map_append, List.map_cons, List.map_nil]
        rw [el, ← ek] at hown2
        refine ⟨k + 1, _, by omega, by go_num, ?_, set_blk HB2 4 _, hown2.setLow em_IT (show w.heap.size + 1 < w.heap.size + 2 from by omega) _, ?_, ?_⟩
        · exact set_old (grown_heap hg2 (al_old (bl_heap hbl hI.out.1)) (fun k' e => by have := hv2 k' e; omega)) (show w.heap.size ≠ w.heap.size + 1 from by omega)
        · exact (bl_grown (bl_alloc (bl_trans hI.out.2.2.2.1.drew hbl) _) hg2 (fun k' e => by have := hv2 k' e; omega)).setCell (show w.heap.size ≤ w.heap.size + 1 from by omega) _
        · have h1 := hg2.size; have h2 := hbl.size; have h3 := hI.out.2.2.2.2; simp at h1 h2 ⊢; omega
      case measure => simp [intOf]; omega
    · obtain rfl : k = kids.length := by omega
      obtain ⟨hh1, hh2, hown, hb, hsz⟩ := hI.out
      rw [List.take_length] at hown
      have c1 := (HM.out.trans (mle_below hb)) _ _ HC1.out
      obtain ⟨o0, o1, o2, o3, o4, o5⟩ := cells6 hh2
      obtain ⟨r0, r1, r2, r3, r4, r5⟩ := cells6 hh1
      have fr' := froz_blk hh1
      have fo' := froz_blk hh2
      have HBE := Lib.hid hb
      have HH1 := Lib.hid hh1
      have HH2 := Lib.hid hh2
      have HOWN := Lib.hid hown
      have hszz : w.heap.size + 1 < wr.heap.size := by omega
      have hszy : w.heap.size < wr.heap.size := by omega
      clear hh1 hh2 hown hb hI
      have HKL := Lib.hid (show (kids.map toI).length = kids.length by simp)
      obtain ⟨a', c', rfl, lok, row⟩ := HOWN.out.rowIT
      rw [HKL.out] at lok o4
      have ROW := Lib.hid row
      have LOK := Lib.hid lok
      clear lok row
      cases more with
      | nil =>
        obtain rfl : ds = [] := List.eq_nil_of_length_eq_zero hd
        simp only [List.headD_nil] at c1
        go_wp2
        refine bodyPost_ret (v := .agg #[.int .i64 5, .string ⟨#[]⟩, .string ⟨#[]⟩, .slice none 0 0, .slice a' kids.length c', .slice none 0 0]) (by simp [results, Tryz.results44, go_sem, r0, r1, r2, r3, r4, r5, hszy, fr']) rfl ⟨_, _, _, _, _, _, _, _, _, rfl, ?_, ?_⟩
        · refine mit_mk rfl rfl rfl len0 LOK.out len0 (rowKn _ _) (ROW.out.mono (fr_lower (lo_m0 _) (show w.heap.size ≤ w.heap.size + 2 by omega) fun k h1 h2 => ?_)) (rowIT_nil _ _)
          repeat rw [Below.heap_setCell _ _ _ k (show k ≠ w.heap.size from by omega)]
        · have hle : w.heap.size ≤ w.heap.size := Nat.le_refl _
          exact (((((HBE.out.setCell hle _).setCell hle _).setCell hle _).setCell hle _).setCell hle _).setCell hle _
      | cons d rest =>
        have hrest : rest = [] := by simp at h2; exact h2
        subst hrest
        obtain ⟨dv, rfl⟩ : ∃ dv, ds = [dv] := by
          match ds, hd with
          | [x], _ => exact ⟨x, rfl⟩
        simp only [List.headD_cons] at c1
        have hrt : RT m dv d := HE2.out 0 (by simp) (by simp)
        obtain ⟨Td, yd, rfl⟩ := hrt.shape
        have HRT := Lib.hid hrt
        have HIN := Lib.hid (fun (W : World) (h : MLe m W.cell?) => show Calls Tryz.prog 44 #[.iface Td yd] W (PlP d W) from IH.out _ (.inr (by simp)) _ m W (Nat.le_trans (WS_more (by simp)) HW.out) HRT.out h)
        have HMR := Lib.hid (HM.out.trans (mle_below HBE.out))
        have hnn := hnil Td yd
        clear hrt
        go_wp2_with (first | (go_at_call 44; refine (HIN.out _ HMR.out).mono ?_; rintro e w3 ⟨ak', nk', ck', a1', n1', c1', a2', n2', c2', rfl, hmv, hbl⟩; have hX3 := bl_heap hbl HH1.out; have hO3 := bl_heap hbl HH2.out; obtain ⟨q0, q1, q2, q3, q4, q5⟩ := cells6 hO3; have fq := froz_blk hO3; obtain ⟨p0, p1, p2, p3, p4, p5⟩ := cells6 hX3; have fp := froz_blk hX3; have HMV := Lib.hid hmv; have HBL := Lib.hid hbl; have hs3 := lt_blk hO3; have hs2 := lt_blk hX3; clear hX3 hO3 hmv hbl) | go_in)
        refine bodyPost_ret (v := .agg #[.int .i64 5, .string ⟨#[]⟩, .string ⟨#[]⟩, .slice none 0 0, .slice a' kids.length c', .slice (some ⟨w3.heap.size, 0, none⟩) 1 1]) (by simp [results, Tryz.results44, go_sem, p0, p1, p2, p3, p4, p5, hs2, fp]) rfl ⟨_, _, _, _, _, _, _, _, _, rfl, ?_, ?_⟩
        · have hs := HBL.out.size
          have hblk : ∀ k, w.heap.size + 2 ≤ k → k < w3.heap.size → ∀ (u0 u1 u2 u3 u4 u5 u6 : Value) (o : Obj), (((((((((w3.setCell ⟨w.heap.size + 1, 5, none⟩ u0).setCell ⟨w.heap.size, 0, none⟩ u1).setCell ⟨w.heap.size, 1, none⟩ u2).setCell ⟨w.heap.size, 2, none⟩ u3).setCell ⟨w.heap.size, 3, none⟩ u4).setCell ⟨w.heap.size, 4, none⟩ u5).setCell ⟨w.heap.size, 5, none⟩ u6).alloc o).heap[k]?) = w3.heap[k]? := fun k h1 h2 u0 u1 u2 u3 u4 u5 u6 o => by
            rw [Below.heap_alloc _ _ k (by simpa using h2)]
            repeat rw [Below.heap_setCell _ _ _ k (show k ≠ w.heap.size from by omega)]
            rw [Below.heap_setCell _ _ _ k (show k ≠ w.heap.size + 1 from by omega)]
          refine mit_mk rfl rfl rfl len0 LOK.out ⟨Nat.le_refl _, by decide⟩ (rowKn _ _) (ROW.out.mono (fr_lower (lo_m0 _) (show w.heap.size ≤ w.heap.size + 2 by omega) fun k h1 h2 => (hblk k h1 (by omega) _ _ _ _ _ _ _ _).trans (HBL.out.block k h2))) ?_
          refine rowIT_one (HMV.out.mono (fr_deep (lo_m0 _) (by omega) (fun k e => by cases e) (fun k h1 h2 _ => hblk k (by omega) h2 _ _ _ _ _ _ _ _) (.inl rfl))) (fun j u hj => ?_)
          unfold fr
          rw [if_pos (show w.heap.size ≤ w3.heap.size by omega), if_neg (by simp)]
          exact ucell_blk (al_new (by simp)) j (by simpa using hj)
        · have hle : w.heap.size ≤ w.heap.size := Nat.le_refl _
          have hle1 : w.heap.size ≤ w.heap.size + 1 := by omega
          have hs := HBL.out.size
          refine bl_alloc ?_ _
          exact (((((((bl_trans HBE.out HBL.out).setCell hle1 _).setCell hle _).setCell hle _).setCell hle _).setCell hle _).setCell hle _).setCell hle _
end Go.Proofs.YtaglgokeejjagaaGreat
