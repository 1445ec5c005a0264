/- 'works'. -/
import Derived.Test.YtaglgokeejjagaaGreatTyW
import Derived.BigQuiet
namespace Go.Proofs.YtaglgokeejjagaaGreat
set_option linter.unusedVariables false
set_option linter.unusedSimpArgs false
open Go.RowKit Go.Sort
def GvP (v : Value) (w : World) (e : Ending) (w' : World) : Prop := e = .returned v ∧ Gr w w'
set_option maxHeartbeats 2000000 in
set_option maxRecDepth 100000 in
theorem built_null (w : World) : Calls Tryz.prog 46 #[.agg #[.int .i64 1, .string ⟨#[]⟩, .string ⟨#[]⟩, .slice none 0 0, .slice none 0 0, .slice none 0 0]] w (GvP (.iface 90 (.agg #[])) w) := by
  go_enter Tryz.func46, Tryz.ntmps46
  go_wp2_with (first | (go_at_call 73; refine (new73 _).mono ?_; rintro e w2 ⟨rfl, g1⟩) | go_in)
  go_ret
  exact ⟨rfl, ((Gr.refl _).alloc _).trans g1⟩
set_option maxHeartbeats 2000000 in
set_option maxRecDepth 100000 in
theorem built_str (w : World) : Calls Tryz.prog 46 #[.agg #[.int .i64 4, .string ⟨#[]⟩, .string ⟨#[]⟩, .slice none 0 0, .slice none 0 0, .slice none 0 0]] w (GvP (.iface 93 (.agg #[])) w) := by
  go_enter Tryz.func46, Tryz.ntmps46
  go_wp2_with (first | (go_at_call 76; refine (new76 _).mono ?_; rintro e w2 ⟨rfl, g1⟩) | go_in)
  go_ret
  exact ⟨rfl, ((Gr.refl _).alloc _).trans g1⟩
set_option maxHeartbeats 2000000 in
set_option maxRecDepth 100000 in
theorem cmp_ns (w : World) : Calls Tryz.prog 48 #[.iface 90 (.agg #[]), .iface 93 (.agg #[])] w (GvP (.int .i64 (-1)) w) := by
  go_enter Tryz.func48, Tryz.ntmps48
  go_wp2
  go_ret
  exact ⟨rfl, Gr.refl _⟩
set_option maxHeartbeats 2000000 in
set_option maxRecDepth 100000 in
theorem icmp_ns (w : World) : Calls Tryz.prog 23 #[.agg #[.int .i64 1, .string ⟨#[]⟩, .string ⟨#[]⟩, .slice none 0 0, .slice none 0 0, .slice none 0 0], .agg #[.int .i64 4, .string ⟨#[]⟩, .string ⟨#[]⟩, .slice none 0 0, .slice none 0 0, .slice none 0 0]] w (GvP (.int .i64 (-1)) w) := by
  have hmix : Tryz.prog.follows .mixedOrders = true := by kernel_rfl
  have H1 := Lib.hid built_null
  have H2 := Lib.hid built_str
  have H3 := Lib.hid cmp_ns
  go_enter Tryz.func23, Tryz.ntmps23
  go_wp2
  have hc := al_old (o := .cells #[.int .i64 4, .string ⟨#[]⟩, .string ⟨#[]⟩, .slice none 0 0, .slice none 0 0, .slice none 0 0] 25) (al_new (w := w) (o := .cells #[.int .i64 1, .string ⟨#[]⟩, .string ⟨#[]⟩, .slice none 0 0, .slice none 0 0, .slice none 0 0] 25) rfl)
  have hc2 := al_new (w := w.alloc (.cells #[.int .i64 1, .string ⟨#[]⟩, .string ⟨#[]⟩, .slice none 0 0, .slice none 0 0, .slice none 0 0] 25)) (o := .cells #[.int .i64 4, .string ⟨#[]⟩, .string ⟨#[]⟩, .slice none 0 0, .slice none 0 0, .slice none 0 0] 25) (k := w.heap.size + 1) (by simp)
  have hg := ((Gr.refl w).alloc (.cells #[.int .i64 1, .string ⟨#[]⟩, .string ⟨#[]⟩, .slice none 0 0, .slice none 0 0, .slice none 0 0] 25)).alloc (.cells #[.int .i64 4, .string ⟨#[]⟩, .string ⟨#[]⟩, .slice none 0 0, .slice none 0 0, .slice none 0 0] 25)
  generalize ((w.alloc (.cells #[.int .i64 1, .string ⟨#[]⟩, .string ⟨#[]⟩, .slice none 0 0, .slice none 0 0, .slice none 0 0] 25)).alloc (.cells #[.int .i64 4, .string ⟨#[]⟩, .string ⟨#[]⟩, .slice none 0 0, .slice none 0 0, .slice none 0 0] 25)) = W at hc hc2 hg ⊢
  have HG := Lib.hid hg
  have d0 := fun n os => (gr_grow W n os).cell (cell_blk hc 0 rfl)
  have d1 := fun n os => (gr_grow W n os).cell (cell_blk hc 1 rfl)
  have d2 := fun n os => (gr_grow W n os).cell (cell_blk hc 2 rfl)
  have d3 := fun n os => (gr_grow W n os).cell (cell_blk hc 3 rfl)
  have d4 := fun n os => (gr_grow W n os).cell (cell_blk hc 4 rfl)
  have d5 := fun n os => (gr_grow W n os).cell (cell_blk hc 5 rfl)
  have f0 := fun n os => (gr_grow W n os).cell (cell_blk hc2 0 rfl)
  have f1 := fun n os => (gr_grow W n os).cell (cell_blk hc2 1 rfl)
  have f2 := fun n os => (gr_grow W n os).cell (cell_blk hc2 2 rfl)
  have f3 := fun n os => (gr_grow W n os).cell (cell_blk hc2 3 rfl)
  have f4 := fun n os => (gr_grow W n os).cell (cell_blk hc2 4 rfl)
  have f5 := fun n os => (gr_grow W n os).cell (cell_blk hc2 5 rfl)
  clear hc hc2 hg
  refine wp_region_quiet_grown hmix (by kernel_rfl) ?_
  repeat (go_big_quiet_step ((first | (go_at_call 46; first | with_reducible exact quiet_gr (v := .iface 90 (.agg #[])) (H1.out _) | with_reducible exact quiet_gr (v := .iface 93 (.agg #[])) (H2.out _)) | (go_at_call 48; with_reducible exact quiet_gr (v := .int .i64 (-1)) (H3.out _)))))
  refine wpQuiet_nil ?_
  intro _ hw'
  obtain ⟨⟨nq, osq⟩, hw''⟩ := hw'
  subst hw''
  go_wp2
  go_ret
  exact ⟨rfl, HG.out.trans (gr_grow _ _ _)⟩
def WkP (w : World) (e : Ending) (w' : World) : Prop := e = .returned (.bool true) ∧ Gr w w'
set_option maxHeartbeats 2000000 in
set_option maxRecDepth 100000 in
theorem works_any (w : World) : Calls Tryz.prog 17 #[] w (WkP w) := by
  go_enter Tryz.func17, Tryz.ntmps17
  go_wp2_with (go_at_call 23; refine (icmp_ns _).mono ?_; rintro e w2 ⟨rfl, g1⟩)
  go_ret
  exact ⟨rfl, g1⟩
end Go.Proofs.YtaglgokeejjagaaGreat
