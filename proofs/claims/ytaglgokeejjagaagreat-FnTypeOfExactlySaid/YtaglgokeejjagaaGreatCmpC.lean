/- 'Compare' at two types of one kind. -/
import Derived.Test.YtaglgokeejjagaaGreatCmpB
import Derived.LaidEqlPtr
namespace Go.Proofs.YtaglgokeejjagaaGreat
set_option linter.unusedVariables false
set_option linter.unusedSimpArgs false
open Go.RowKit Go.Sort Go.Shelf

theorem mix_t : Tryz.prog.follows .mixedOrders = true := by kernel_rfl
theorem info151 : (Tryz.prog.info? 151).map (·.size) = some 2 := by kernel_rfl
theorem info154 : (Tryz.prog.info? 154).map (·.size) = some 2 := by kernel_rfl
theorem eql94_same (w : World) (b : Nat) : (binOp .eql 94 (.pointer (some ⟨b, 0, none⟩)) (.pointer (some ⟨b, 0, none⟩))).run Tryz.prog w = .ok (.bool true) w := by
  obtain ⟨j, hj, hjs⟩ := Option.map_eq_some_iff.1 info151
  exact run_eql_ptr_same w ⟨b, 0, none⟩ Tryz.underlying94 hj
theorem eql80_same (w : World) (b : Nat) : (binOp .eql 80 (.pointer (some ⟨b, 0, none⟩)) (.pointer (some ⟨b, 0, none⟩))).run Tryz.prog w = .ok (.bool true) w := by
  obtain ⟨j, hj, hjs⟩ := Option.map_eq_some_iff.1 info154
  exact run_eql_ptr_same w ⟨b, 0, none⟩ Tryz.underlying80 hj
theorem eql94_other {w : World} {b b' : Nat} {x x' : Value} (hne : ¬ b = b') (h : ucell w ⟨b, 0, none⟩ = some x) (h' : ucell w ⟨b', 0, none⟩ = some x') : (binOp .eql 94 (.pointer (some ⟨b, 0, none⟩)) (.pointer (some ⟨b', 0, none⟩))).run Tryz.prog w = .ok (.bool false) w := by
  obtain ⟨j, hj, hjs⟩ := Option.map_eq_some_iff.1 info151
  obtain ⟨_, _, g⟩ := ucell_heap h
  obtain ⟨_, _, g'⟩ := ucell_heap h'
  exact run_eql_ptr_other w Tryz.underlying94 hj (by rw [hjs]; decide) (fun e => hne (by cases e; rfl)) g g'
theorem eql80_other {w : World} {b b' : Nat} {x x' : Value} (hne : ¬ b = b') (h : ucell w ⟨b, 0, none⟩ = some x) (h' : ucell w ⟨b', 0, none⟩ = some x') : (binOp .eql 80 (.pointer (some ⟨b, 0, none⟩)) (.pointer (some ⟨b', 0, none⟩))).run Tryz.prog w = .ok (.bool false) w := by
  obtain ⟨j, hj, hjs⟩ := Option.map_eq_some_iff.1 info154
  obtain ⟨_, _, g⟩ := ucell_heap h
  obtain ⟨_, _, g'⟩ := ucell_heap h'
  exact run_eql_ptr_other w Tryz.underlying80 hj (by rw [hjs]; decide) (fun e => hne (by cases e; rfl)) g g'
set_option maxHeartbeats 2000000 in
set_option maxRecDepth 100000 in
theorem cmp_flat1 (w : World) : Calls Tryz.prog 48 #[.iface 90 (.agg #[]), .iface 90 (.agg #[])] w (CmpQ 0 w) := by
  have h : RT w.cell? (.iface 90 (.agg #[])) (.mk 1 [] [] []) := by constructor
  have h' := h
  have H1 := Lib.hid (unwrap_any h)
  have H1' := Lib.hid (unwrap_any h')
  have H2 := Lib.hid (unwrapR_any h)
  have H2' := Lib.hid (unwrapR_any h')
  have H3 := Lib.hid (fun W => show Calls _ _ _ W (SameP (.int .i64 0) W) from order_any h W)
  have H3' := Lib.hid (fun W => show Calls _ _ _ W (SameP (.int .i64 0) W) from order_any h' W)
  clear h h'
  go_enter Tryz.func48, Tryz.ntmps48
  go_wp2_with (first | (go_at_call 67; first | (((with_reducible refine (H1.out _).mono ?_)); rintro e w2 ⟨rfl, hww⟩; have hww := hww.symm; subst hww) | (((with_reducible refine (H1'.out _).mono ?_)); rintro e w2 ⟨rfl, hww⟩; have hww := hww.symm; subst hww)) | (go_at_call 66; first | (((with_reducible refine (H2.out _).mono ?_)); rintro e w2 ⟨rfl, hww⟩; have hww := hww.symm; subst hww) | (((with_reducible refine (H2'.out _).mono ?_)); rintro e w2 ⟨rfl, hww⟩; have hww := hww.symm; subst hww)) | (go_at_call 90; first | (((with_reducible refine (H3.out _).mono ?_)); rintro e w2 ⟨rfl, hww⟩; have hww := hww.symm; subst hww) | (((with_reducible refine (H3'.out _).mono ?_)); rintro e w2 ⟨rfl, hww⟩; have hww := hww.symm; subst hww)))
  go_ret
  exact ⟨rfl, Gr.refl _⟩
set_option maxHeartbeats 2000000 in
set_option maxRecDepth 100000 in
theorem cmp_flat2 (w : World) : Calls Tryz.prog 48 #[.iface 91 (.agg #[]), .iface 91 (.agg #[])] w (CmpQ 0 w) := by
  have h : RT w.cell? (.iface 91 (.agg #[])) (.mk 2 [] [] []) := by constructor
  have h' := h
  have H1 := Lib.hid (unwrap_any h)
  have H1' := Lib.hid (unwrap_any h')
  have H2 := Lib.hid (unwrapR_any h)
  have H2' := Lib.hid (unwrapR_any h')
  have H3 := Lib.hid (fun W => show Calls _ _ _ W (SameP (.int .i64 1) W) from order_any h W)
  have H3' := Lib.hid (fun W => show Calls _ _ _ W (SameP (.int .i64 1) W) from order_any h' W)
  clear h h'
  go_enter Tryz.func48, Tryz.ntmps48
  go_wp2_with (first | (go_at_call 67; first | (((with_reducible refine (H1.out _).mono ?_)); rintro e w2 ⟨rfl, hww⟩; have hww := hww.symm; subst hww) | (((with_reducible refine (H1'.out _).mono ?_)); rintro e w2 ⟨rfl, hww⟩; have hww := hww.symm; subst hww)) | (go_at_call 66; first | (((with_reducible refine (H2.out _).mono ?_)); rintro e w2 ⟨rfl, hww⟩; have hww := hww.symm; subst hww) | (((with_reducible refine (H2'.out _).mono ?_)); rintro e w2 ⟨rfl, hww⟩; have hww := hww.symm; subst hww)) | (go_at_call 90; first | (((with_reducible refine (H3.out _).mono ?_)); rintro e w2 ⟨rfl, hww⟩; have hww := hww.symm; subst hww) | (((with_reducible refine (H3'.out _).mono ?_)); rintro e w2 ⟨rfl, hww⟩; have hww := hww.symm; subst hww)))
  go_ret
  exact ⟨rfl, Gr.refl _⟩
set_option maxHeartbeats 2000000 in
set_option maxRecDepth 100000 in
theorem cmp_flat3 (w : World) : Calls Tryz.prog 48 #[.iface 92 (.agg #[]), .iface 92 (.agg #[])] w (CmpQ 0 w) := by
  have h : RT w.cell? (.iface 92 (.agg #[])) (.mk 3 [] [] []) := by constructor
  have h' := h
  have H1 := Lib.hid (unwrap_any h)
  have H1' := Lib.hid (unwrap_any h')
  have H2 := Lib.hid (unwrapR_any h)
  have H2' := Lib.hid (unwrapR_any h')
  have H3 := Lib.hid (fun W => show Calls _ _ _ W (SameP (.int .i64 2) W) from order_any h W)
  have H3' := Lib.hid (fun W => show Calls _ _ _ W (SameP (.int .i64 2) W) from order_any h' W)
  clear h h'
  go_enter Tryz.func48, Tryz.ntmps48
  go_wp2_with (first | (go_at_call 67; first | (((with_reducible refine (H1.out _).mono ?_)); rintro e w2 ⟨rfl, hww⟩; have hww := hww.symm; subst hww) | (((with_reducible refine (H1'.out _).mono ?_)); rintro e w2 ⟨rfl, hww⟩; have hww := hww.symm; subst hww)) | (go_at_call 66; first | (((with_reducible refine (H2.out _).mono ?_)); rintro e w2 ⟨rfl, hww⟩; have hww := hww.symm; subst hww) | (((with_reducible refine (H2'.out _).mono ?_)); rintro e w2 ⟨rfl, hww⟩; have hww := hww.symm; subst hww)) | (go_at_call 90; first | (((with_reducible refine (H3.out _).mono ?_)); rintro e w2 ⟨rfl, hww⟩; have hww := hww.symm; subst hww) | (((with_reducible refine (H3'.out _).mono ?_)); rintro e w2 ⟨rfl, hww⟩; have hww := hww.symm; subst hww)))
  go_ret
  exact ⟨rfl, Gr.refl _⟩
set_option maxHeartbeats 2000000 in
set_option maxRecDepth 100000 in
theorem cmp_flat4 (w : World) : Calls Tryz.prog 48 #[.iface 93 (.agg #[]), .iface 93 (.agg #[])] w (CmpQ 0 w) := by
  have h : RT w.cell? (.iface 93 (.agg #[])) (.mk 4 [] [] []) := by constructor
  have h' := h
  have H1 := Lib.hid (unwrap_any h)
  have H1' := Lib.hid (unwrap_any h')
  have H2 := Lib.hid (unwrapR_any h)
  have H2' := Lib.hid (unwrapR_any h')
  have H3 := Lib.hid (fun W => show Calls _ _ _ W (SameP (.int .i64 3) W) from order_any h W)
  have H3' := Lib.hid (fun W => show Calls _ _ _ W (SameP (.int .i64 3) W) from order_any h' W)
  clear h h'
  go_enter Tryz.func48, Tryz.ntmps48
  go_wp2_with (first | (go_at_call 67; first | (((with_reducible refine (H1.out _).mono ?_)); rintro e w2 ⟨rfl, hww⟩; have hww := hww.symm; subst hww) | (((with_reducible refine (H1'.out _).mono ?_)); rintro e w2 ⟨rfl, hww⟩; have hww := hww.symm; subst hww)) | (go_at_call 66; first | (((with_reducible refine (H2.out _).mono ?_)); rintro e w2 ⟨rfl, hww⟩; have hww := hww.symm; subst hww) | (((with_reducible refine (H2'.out _).mono ?_)); rintro e w2 ⟨rfl, hww⟩; have hww := hww.symm; subst hww)) | (go_at_call 90; first | (((with_reducible refine (H3.out _).mono ?_)); rintro e w2 ⟨rfl, hww⟩; have hww := hww.symm; subst hww) | (((with_reducible refine (H3'.out _).mono ?_)); rintro e w2 ⟨rfl, hww⟩; have hww := hww.symm; subst hww)))
  go_ret
  exact ⟨rfl, Gr.refl _⟩
set_option maxHeartbeats 4000000 in
set_option maxRecDepth 100000 in
theorem cmp_set {m : Mem} {w : World} {b b' : Nat} {u u' : Value} {s t : ST} (IH : Hid (CmpOk s)) (h0 : m ⟨b, 0, none⟩ = some u) (e : RT m u s) (h0' : m ⟨b', 0, none⟩ = some u') (e' : RT m u' t) (hm : MLe m (ucell w)) :
    Calls Tryz.prog 48 #[.iface 108 (.pointer (some ⟨b, 0, none⟩)), .iface 108 (.pointer (some ⟨b', 0, none⟩))] w (CmpQ (cmpT (.mk 7 [] [s] []) (.mk 7 [] [t] [])) w) := by
  have h : RT m _ _ := .set h0 e
  have h' : RT m _ _ := .set h0' e'
  rw [cmpT_set e.nt e'.nt]
  have H1 := Lib.hid (unwrap_any h)
  have H1' := Lib.hid (unwrap_any h')
  have H2 := Lib.hid (unwrapR_any h)
  have H2' := Lib.hid (unwrapR_any h')
  have H3 := Lib.hid (fun W => show Calls _ _ _ W (SameP (.int .i64 6) W) from order_any h W)
  have H3' := Lib.hid (fun W => show Calls _ _ _ W (SameP (.int .i64 6) W) from order_any h' W)
  have HC := Lib.hid (fun n os => show Calls Tryz.prog 48 #[u, u'] (grow (w.drewN n) os) (fun e w' => e = .returned (.int .i64 (cmpT s t)) ∧ Gr (grow (w.drewN n) os) w') from IH.out _ m _ _ _ e e' (hm.trans (mleU (gr_grow w n os).below)))
  obtain ⟨T, y, rfl⟩ := e.shape'
  obtain ⟨T', y', rfl⟩ := e'.shape'
  have c0 := ucell_le _ _ (hm _ _ h0)
  have c1 := ucell_le _ _ (hm _ _ h0')
  have A0 := fun n os => (gr_grow w n os).cell c0
  have B0 := fun n os => (gr_grow w n os).cell c1
  have hmix := mix_t
  clear h h' h0 h0' e e' hm
  generalize cmpT s t = n at HC ⊢
  go_enter Tryz.func48, Tryz.ntmps48
  go_wp2_with (first | (go_at_call 67; first | (((with_reducible refine (H1.out _).mono ?_)); rintro e w2 ⟨rfl, hww⟩; have hww := hww.symm; subst hww) | (((with_reducible refine (H1'.out _).mono ?_)); rintro e w2 ⟨rfl, hww⟩; have hww := hww.symm; subst hww)) | (go_at_call 66; first | (((with_reducible refine (H2.out _).mono ?_)); rintro e w2 ⟨rfl, hww⟩; have hww := hww.symm; subst hww) | (((with_reducible refine (H2'.out _).mono ?_)); rintro e w2 ⟨rfl, hww⟩; have hww := hww.symm; subst hww)) | (go_at_call 90; first | (((with_reducible refine (H3.out _).mono ?_)); rintro e w2 ⟨rfl, hww⟩; have hww := hww.symm; subst hww) | (((with_reducible refine (H3'.out _).mono ?_)); rintro e w2 ⟨rfl, hww⟩; have hww := hww.symm; subst hww)))
  refine wp_region_quiet_grown hmix (by kernel_rfl) ?_
  repeat (go_big_quiet_step ((go_at_call 48; with_reducible exact quiet_gr (v := .int .i64 n) (HC.out _ _))))
  refine wpQuiet_nil ?_
  intro _ hw'
  obtain ⟨⟨nq, osq⟩, hw''⟩ := hw'
  subst hw''
  go_wp2
  go_ret
  exact ⟨rfl, gr_grow _ _ _⟩
set_option maxHeartbeats 4000000 in
set_option maxRecDepth 100000 in
theorem cmp_any {m : Mem} {w : World} {a a' : Option Addr} {c c' : Nat} {xs ys : List Value} {l l' : List ST} (IH : Hid (∀ k ∈ l, CmpOk k)) (lk : lenOk l.length c) (hl : xs.length = l.length) (r : RowX m a xs) (e : ∀ i (h1 : i < xs.length) (h2 : i < l.length), RT m xs[i] l[i])
    (lk' : lenOk l'.length c') (hl' : ys.length = l'.length) (r' : RowX m a' ys) (e' : ∀ i (h1 : i < ys.length) (h2 : i < l'.length), RT m ys[i] l'[i]) (hm : MLe m (ucell w)) :
    Calls Tryz.prog 48 #[.iface 110 (.slice a l.length c), .iface 110 (.slice a' l'.length c')] w (CmpQ (cmpT (.mk 8 [] l []) (.mk 8 [] l' [])) w) := by
  have h : RT m _ _ := .any lk hl r e
  have h' : RT m _ _ := .any lk' hl' r' e'
  have hn : ∀ k ∈ l, NT k := mem_of_ih (m := m) hl (fun i h1 h2 => (e i h1 h2).nt)
  have hn' : ∀ k ∈ l', NT k := mem_of_ih (m := m) hl' (fun i h1 h2 => (e' i h1 h2).nt)
  rw [cmpT_any hn hn']
  have H1 := Lib.hid (unwrap_any h)
  have H1' := Lib.hid (unwrap_any h')
  have H2 := Lib.hid (unwrapR_any h)
  have H2' := Lib.hid (unwrapR_any h')
  have H3 := Lib.hid (fun W => show Calls _ _ _ W (SameP (.int .i64 7) W) from order_any h W)
  have H3' := Lib.hid (fun W => show Calls _ _ _ W (SameP (.int .i64 7) W) from order_any h' W)
  have HC := Lib.hid (fun n os => show Calls Tryz.prog 91 #[.slice a l.length c, .slice a' l'.length c', .func (.func 48) #[] #[]] (grow (w.drewN n) os) (fun e w' => e = .returned (.int .i64 (cmpL l l')) ∧ Gr (grow (w.drewN n) os) w') from cmpf_any IH lk hl r e lk' hl' r' e' (hm.trans (mleU (gr_grow w n os).below)))
  have hmix := mix_t
  clear h h' hn hn' e e' hm r r' hl hl' lk lk'
  generalize cmpL l l' = n at HC ⊢
  go_enter Tryz.func48, Tryz.ntmps48
  go_wp2_with (first | (go_at_call 67; first | (((with_reducible refine (H1.out _).mono ?_)); rintro e w2 ⟨rfl, hww⟩; have hww := hww.symm; subst hww) | (((with_reducible refine (H1'.out _).mono ?_)); rintro e w2 ⟨rfl, hww⟩; have hww := hww.symm; subst hww)) | (go_at_call 66; first | (((with_reducible refine (H2.out _).mono ?_)); rintro e w2 ⟨rfl, hww⟩; have hww := hww.symm; subst hww) | (((with_reducible refine (H2'.out _).mono ?_)); rintro e w2 ⟨rfl, hww⟩; have hww := hww.symm; subst hww)) | (go_at_call 90; first | (((with_reducible refine (H3.out _).mono ?_)); rintro e w2 ⟨rfl, hww⟩; have hww := hww.symm; subst hww) | (((with_reducible refine (H3'.out _).mono ?_)); rintro e w2 ⟨rfl, hww⟩; have hww := hww.symm; subst hww)))
  refine wp_region_quiet_grown hmix (by kernel_rfl) ?_
  repeat (go_big_quiet_step ((go_at_call 91; with_reducible exact quiet_gr (v := .int .i64 n) (HC.out _ _))))
  refine wpQuiet_nil ?_
  intro _ hw'
  obtain ⟨⟨nq, osq⟩, hw''⟩ := hw'
  subst hw''
  go_wp2
  go_ret
  exact ⟨rfl, gr_grow _ _ _⟩
end Go.Proofs.YtaglgokeejjagaaGreat
