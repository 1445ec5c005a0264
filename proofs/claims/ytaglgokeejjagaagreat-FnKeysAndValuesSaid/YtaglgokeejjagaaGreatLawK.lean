/- 'plain' of the laws at a key; 'Mixed'; 'Entries'. -/
import Derived.Test.YtaglgokeejjagaaGreatSelD
import Derived.Test.YtaglgokeejjagaaGreatPlainO
import Derived.Test.YtaglgokeejjagaaGreatPrV
import Derived.Test.YtaglgokeejjagaaGreatNum
import Derived.Test.YtaglgokeejjagaaGreatSelP
import Derived.Test.YtaglgokeejjagaaGreatInT
import Derived.Test.YtaglgokeejjagaaGreatKGV
namespace Go.Proofs.YtaglgokeejjagaaGreat
set_option linter.unusedVariables false
set_option linter.unusedSimpArgs false
open Go.RowKit Go.Sort

/-- A key as a value: a text or a number. -/
abbrev keyV (kd : Int) (tx : ByteArray) : Value := .agg #[.int .i64 kd, .string tx, .slice none 0 0, .slice none 0 0]
set_option maxHeartbeats 4000000 in
set_option maxRecDepth 100000 in
theorem plain22 (kd : Int) (tx : ByteArray) (w : World) : Calls Tryz.prog 22 #[keyV kd tx] w (fun e w' => e = .returned (keyV kd tx) ∧ Below w.heap.size w w') := by
  unfold keyV
  go_enter Tryz.func22, Tryz.ntmps22
  go_wp2
  go_loopw [16] (fun i wr => i = .int .i64 0 ∧ Hid (wr.heap[w.heap.size + 1]? = some (.cells #[.int .i64 0, .string ⟨#[]⟩, .slice none 0 0, .slice none 0 0] 29 (0, 0)) ∧ wr.heap[w.heap.size + 1 + 1]? = some (.cells #[.int .i64 kd, .string tx, .slice none 0 0, .slice none 0 0] 29 (0, 0)) ∧ Below w.heap.size w wr)) (fun _ _ => 0)
  case atStart =>
    refine ⟨rfl, ?_, ?_, ?_⟩
    · exact al_old (al_new (by simp))
    · exact al_new (by simp)
    · repeat (first | exact Below.refl _ _ | refine Below.alloc ?_ (by simp; try omega) _)
  case round =>
    obtain ⟨rfl, hI⟩ := hrel
    obtain ⟨o0, o1, o2, o3⟩ := cells4 hI.out.2.1
    obtain ⟨r0, r1, r2, r3⟩ := cells4 hI.out.1
    have fr' := froz_blk hI.out.1
    go_wp2
    refine bodyPost_ret (v := .agg #[.int .i64 kd, .string tx, .slice none 0 0, .slice none 0 0]) (by simp [results, Tryz.results22, go_sem, r0, r1, r2, r3]) rfl ⟨rfl, ?_⟩
    have hle : w.heap.size ≤ w.heap.size + 1 := by omega
    exact (((hI.out.2.2.setCell hle _).setCell hle _).setCell hle _).setCell hle _

/-- What 'Mixed' tells that says no. -/
def MxQ (s : ST) (w : World) (e : Ending) (w' : World) : Prop := ∃ b, e = .returned (.bool b) ∧ (b = false → s.kind = 8 → ∀ k ∈ s.kids, k.kind ≠ 6) ∧ Below w.heap.size w w'
set_option maxHeartbeats 4000000 in
set_option maxRecDepth 100000 in
theorem mixed_any {s : ST} {m : Mem} {kd : Int} {ak a1 a2 : Option Addr} {nk ck n1 c1 n2 c2 : Nat} {w : World} (hv : MST m (stCells kd ak nk ck a1 n1 c1 a2 n2 c2) s) (hw : WS s ≤ 1000000) (hm : MLe m w.cell?) :
    Calls Tryz.prog 19 #[.agg #[.int .i64 kd, .slice ak nk ck, .slice a1 n1 c1, .slice a2 n2 c2]] w (MxQ s w) := by
  obtain ⟨rfl, rfl, rfl, rfl, ⟨lk1, lk2⟩, ⟨l11, l12⟩, ⟨l21, l22⟩, rk, r1, r2⟩ := hv.open
  have HR := Lib.hid r1
  have HM := Lib.hid hm
  have HN := Lib.hid (show s.kids.length ≤ 1000000 from by have := sum_ge WS WS_pos s.kids; have := WS_eq s; omega)
  clear rk r1 r2 hm hv hw
  go_enter Tryz.func19, Tryz.ntmps19
  go_wp2
  go_loopw [4, 8] (fun _ i wr => ∃ k : Nat, k ≤ s.kids.length ∧ i = .int .i64 k ∧ Hid (wr.heap[w.heap.size]? = some (.cells #[.int .i64 s.kind, .slice ak s.keys.length ck, .slice a1 s.kids.length c1, .slice a2 s.more.length c2] 42 (0, 0)) ∧ Below w.heap.size w wr ∧ (s.kind = 8 → ∀ x ∈ s.kids.take k, x.kind ≠ 6))) (fun _ i _ => s.kids.length - (intOf i).toNat)
  case atStart =>
    refine ⟨0, Nat.zero_le _, rfl, al_new rfl, ?_, by simp⟩
    repeat (first | exact Below.refl _ _ | refine Below.alloc ?_ (by simp) _)
  case round =>
    obtain ⟨k, hk, rfl, hI⟩ := hrel
    obtain ⟨x0, x1, x2, x3⟩ := cells4 hI.out.1
    have hsz := lt_blk hI.out.1
    by_cases hlt : k < s.kids.length
    · have hm1 := HM.out.trans (mle_below hI.out.2.1)
      obtain ⟨b, off, kd', ak', nk', ck', a1', n1', c1', a2', n2', c2', rfl, e0, e1, e2, e3, hkv⟩ := HR.out.at hlt
      replace e0 := hm1 _ _ e0
      replace e1 := hm1 _ _ e1
      replace e2 := hm1 _ _ e2
      replace e3 := hm1 _ _ e3
      have HKD := Lib.hid (show kd' = s.kids[k].kind from hkv.open.1)
      clear hkv hm1
      by_cases h8 : s.kind = 8
      · have H8 := Lib.hid h8
        have h8b : (s.kind == 8) = true := by simp [h8]
        clear h8
        by_cases h6 : kd' = 6
        · subst h6
          clear HKD
          go_wp2
          go_ret
          exact ⟨_, rfl, (fun h => by cases h), bl_alloc hI.out.2.1 _⟩
        · have h6b : (kd' == 6) = false := by simpa using h6
          have H6 := Lib.hid h6
          clear h6
          go_wp2
          go_roundw
          case rel =>
            refine ⟨k + 1, by omega, by go_num, al_old hI.out.1, bl_alloc hI.out.2.1 _, fun _ x hx => ?_⟩
            rw [List.take_succ_eq_append_getElem hlt] at hx
            rcases List.mem_append.1 hx with h | h
            · exact hI.out.2.2 H8.out x h
            · simp at h; subst h; rw [← HKD.out]; exact H6.out
          case measure => simp [intOf]; omega
      · have H8 := Lib.hid h8
        have h8b : (s.kind == 8) = false := by simpa using h8
        clear h8
        go_wp2
        go_roundw
        case rel => exact ⟨k + 1, by omega, by go_num, al_old hI.out.1, bl_alloc hI.out.2.1 _, fun h => absurd h H8.out⟩
        case measure => simp [intOf]; omega
    · obtain rfl : k = s.kids.length := by omega
      go_wp2
      go_ret
      exact ⟨_, rfl, fun _ h8 x hx => hI.out.2.2 h8 x (by rw [List.take_length]; exact hx), hI.out.2.1⟩

/-- The cells of the key of the entry with a number. -/
def KeyC (v : Vl) (i : Nat) (c : List Value) : Prop :=
  (v.kind = 6 ∧ ∃ h : i < v.keys.length, c = [.int .i64 4, .string v.keys[i], .slice none 0 0, .slice none 0 0]) ∨ (v.kind ≠ 6 ∧ ∃ tx : ByteArray, tx.data.toList = digs i ∧ c = [.int .i64 3, .string tx, .slice none 0 0, .slice none 0 0])
/-- Rows of the keys and of the values. -/
def EnQ (m : Mem) (v : Vl) (w : World) (e : Ending) (w' : World) : Prop :=
  ∃ (ak : Option Addr) (ck : Nat) (av : Option Addr) (cv : Nat) (kcs vcs : List (List Value)), e = .returned (.tuple #[.slice ak v.kids.length ck, .slice av v.kids.length cv]) ∧ lenOk v.kids.length ck ∧ lenOk v.kids.length cv ∧ kcs.length = v.kids.length ∧ vcs.length = v.kids.length ∧
    (∀ i (h : i < kcs.length), KeyC v i kcs[i]) ∧ (∀ i (h1 : i < vcs.length) (h2 : i < v.kids.length), MV m vcs[i] v.kids[i]) ∧
    Row (fr m w.heap.size w' none) 4 ak v.kids.length (fun i => kcs.getD i []) ∧ Row (fr m w.heap.size w' none) 4 av v.kids.length (fun i => vcs.getD i []) ∧ Below w.heap.size w w'
theorem Own.rowEC {m : Mem} {B B' : Nat} {w : World} {v : Value} {l : List (List Value)} (h : Own EC m0 36 4 B w v l) (hl : Lo m B') (hB : B' ≤ B) : ∃ a c, v = .slice a l.length c ∧ lenOk l.length c ∧ Row (fr m B' w none) 4 a l.length (fun i => l.getD i []) := by
  obtain ⟨a, c, f, rfl, h1, h2, hr, hx⟩ := h.row em_EC
  refine ⟨a, c, rfl, ⟨h1, Nat.le_trans h2 (by simp [maxLen])⟩, fun hn => ?_⟩
  obtain ⟨b, off, e, hc⟩ := hr hn
  refine ⟨b, off, e, fun i hi j u hj => ?_⟩
  have hfi : f i = l[i] := hx i hi
  have := hc i hi j u (by rw [hfi]; simpa [hi] using hj)
  unfold fr at this ⊢
  split at this
  · rename_i h1
    rw [if_neg (by simp)] at this
    rw [if_pos (Nat.le_trans hB h1), if_neg (by simp)]
    exact this
  · cases this
/-- Between two rounds of 'Entries'. -/
def EnI (m : Mem) (v : Vl) (w : World) (o : Obj) (k : Nat) (kcs vcs : List (List Value)) (kv vv : Value) (wr : World) : Prop :=
  kcs.length = k ∧ vcs.length = k ∧ wr.heap[w.heap.size]? = some o ∧
      Own EC m0 36 4 (w.heap.size + 1) wr kv kcs ∧ Own EC m0 36 4 (w.heap.size + 1) wr vv vcs ∧ (∀ i (h : i < kcs.length), KeyC v i kcs[i]) ∧ (∀ i (h1 : i < vcs.length) (h2 : i < v.kids.length), MV m vcs[i] v.kids[i]) ∧
      (∀ g, kv.ownBlock = some g → vv.ownBlock ≠ some g) ∧ Below w.heap.size w wr ∧ w.heap.size + 1 ≤ wr.heap.size
theorem en_vals {m : Mem} {v : Vl} {w wr WA w2 : World} {o : Obj} {k : Nat} {kcs vcs : List (List Value)} {kv vv : Value} (hI : EnI m v w o k kcs vcs kv vv wr) (hA : Below wr.heap.size wr WA) (hg : WA.grownBy w2 kv.ownBlock) : Own EC m0 36 4 (w.heap.size + 1) w2 vv vcs :=
  (hI.2.2.2.2.1.bl em_EC hA).flat (fun _ _ _ _ h => h) hg (fun k' e h => hI.2.2.2.2.2.2.2.1 k' h e)
theorem en_next {m : Mem} {v : Vl} {w wr WA w2 w3 : World} {o o' : Obj} {k g' g2 c1 c2 : Nat} {kcs vcs : List (List Value)} {kv vv : Value} {kc vc : List Value} (hk : k < v.kids.length) (hI : EnI m v w o k kcs vcs kv vv wr) (hA : Below wr.heap.size wr WA) (hkc : KeyC v k kc) (hvc : MV m vc v.kids[k])
    (hown2 : Own EC m0 36 4 (w.heap.size + 1) w2 (.slice (some ⟨g', 0, none⟩) (kcs.length + 1) c1) (kcs ++ [kc])) (hg2 : WA.grownBy w2 kv.ownBlock) (hgg2 : kv.ownBlock = some g' ∨ g' = WA.heap.size)
    (hown3 : Own EC m0 36 4 (w.heap.size + 1) w3 (.slice (some ⟨g2, 0, none⟩) (vcs.length + 1) c2) (vcs ++ [vc])) (hg3 : (w2.alloc o').grownBy w3 vv.ownBlock) (hgg3 : vv.ownBlock = some g2 ∨ g2 = (w2.alloc o').heap.size) :
    EnI m v w o (k + 1) (kcs ++ [kc]) (vcs ++ [vc]) (.slice (some ⟨g', 0, none⟩) (kcs.length + 1) c1) (.slice (some ⟨g2, 0, none⟩) (vcs.length + 1) c2) w3 := by
  obtain ⟨h1, h2, h3, h4, h5, h6, h7, h8, h9, h10⟩ := hI
  have hn : vv.ownBlock ≠ some g' := fun e => by
    rcases hgg2 with h | h
    · exact h8 g' h e
    · have := (h5.lt g' e).2; have := hA.size; omega
  have hkb : ∀ k', kv.ownBlock = some k' → w.heap.size + 1 ≤ k' := fun k' e => (h4.lt k' e).1
  have hvb : ∀ k', vv.ownBlock = some k' → w.heap.size + 1 ≤ k' := fun k' e => (h5.lt k' e).1
  have hB2 : Below w.heap.size w w2 := bl_grown (bl_trans h9 hA) hg2 (fun k' e => by have := hkb k' e; omega)
  have hs2 := hg2.size
  have hs3 := hg3.size
  have hsA := hA.size
  simp at hs3
  refine ⟨by simp [h1], by simp [h2], ?_, ?_, hown3, ?_, ?_, ?_, ?_, by omega⟩
  · exact grown_heap hg3 (al_old (grown_heap hg2 (bl_heap hA h3) (fun k' e => by have := hkb k' e; omega))) (fun k' e => by have := hvb k' e; omega)
  · refine (hown2.alloc em_EC _).flat (fun _ _ _ _ h => h) hg3 (fun k' e h => ?_)
    have : g' = k' := by simpa [Value.ownBlock] using e
    subst this
    exact hn h
  · intro i hi
    by_cases h : i < kcs.length
    · rw [List.getElem_append_left h]; exact h6 i h
    · obtain rfl : i = kcs.length := by simp at hi; omega
      simp only [List.getElem_concat_length]; rw [h1]; exact hkc
  · intro i hi hi2
    by_cases h : i < vcs.length
    · rw [List.getElem_append_left h]; exact h7 i h hi2
    · obtain rfl : i = vcs.length := by simp at hi; omega
      simp only [List.getElem_concat_length]
      have : v.kids[vcs.length] = v.kids[k] := by simp only [h2]
      rw [this]; exact hvc
  · intro g e h
    have e1 : g' = g := by simpa [Value.ownBlock] using e
    have e2 : g2 = g := by simpa [Value.ownBlock] using h
    subst e1
    rcases hgg3 with h' | h'
    · exact hn (e2 ▸ h')
    · have := (hown2.lt g' e).2
      simp at h'; omega
  · exact bl_grown (bl_alloc hB2 _) hg3 (fun k' e => by have := hvb k' e; omega)
set_option maxHeartbeats 8000000 in
set_option maxRecDepth 100000 in
theorem entries_any {v : Vl} {m : Mem} {kd : Int} {tx : ByteArray} {ak a1 : Option Addr} {nk ck n1 c1 : Nat} {w : World} (hv : MV m (vlCells kd tx ak nk ck a1 n1 c1) v) (hp : PV v) (hw : WV v ≤ 5000) (hm : MLe m w.cell?) :
    Calls Tryz.prog 18 #[.agg #[.int .i64 kd, .string tx, .slice ak nk ck, .slice a1 n1 c1]] w (EnQ m v w) := by
  obtain ⟨rfl, rfl, rfl, rfl, ⟨lk1, lk2⟩, ⟨l11, l12⟩, rk, r1⟩ := hv.open
  have HR := Lib.hid r1
  have HK := Lib.hid rk
  have HM := Lib.hid hm
  have HLO := Lib.hid (lo_of_mle hm)
  have HP := Lib.hid hp
  have HN := Lib.hid (show v.kids.length ≤ 5000 from Nat.le_trans (WV_kids v) hw)
  clear rk r1 hm hv hw hp
  go_enter Tryz.func18, Tryz.ntmps18
  go_wp2
  go_loopw [2, 3, 9] (fun kv vv i wr => ∃ (k : Nat) (kcs vcs : List (List Value)), k ≤ v.kids.length ∧ i = .int .i64 k ∧ Hid (EnI m v w (.cells #[.int .i64 v.kind, .string v.text, .slice ak v.keys.length ck, .slice a1 v.kids.length c1] 36 (0, 0)) k kcs vcs kv vv wr)) (fun _ _ i _ => v.kids.length - (intOf i).toNat)
  case atStart =>
    refine ⟨0, [], [], Nat.zero_le _, rfl, rfl, rfl, al_new rfl, Own.nil .., Own.nil .., fun i h => absurd h (Nat.not_lt_zero _), fun i h => absurd h (Nat.not_lt_zero _), fun g h => by simp [Value.ownBlock] at h, ?_, by simp⟩
    repeat (first | exact Below.refl _ _ | refine Below.alloc ?_ (by simp) _)
  case round =>
    obtain ⟨k, kcs, vcs, hk, rfl, hI⟩ := hrel
    obtain ⟨x0, x1, x2, x3⟩ := cells4 hI.out.2.2.1
    have hsz := lt_blk hI.out.2.2.1
    by_cases hlt : k < v.kids.length
    · have hm1 := HM.out.trans (mle_below hI.out.2.2.2.2.2.2.2.2.1)
      obtain ⟨b, off, kd', tx', ak', nk', ck', a1', n1', c1', rfl, e0, e1, e2, e3, hkv⟩ := HR.out.at hlt
      replace e0 := hm1 _ _ e0
      replace e1 := hm1 _ _ e1
      replace e2 := hm1 _ _ e2
      replace e3 := hm1 _ _ e3
      have HKV := Lib.hid hkv
      have HL1 := Lib.hid (show (kcs.length + 1) * 72 ≤ 140737488355328 ∧ kcs.length + 1 ≤ maxLen ∧ (vcs.length + 1) * 72 ≤ 140737488355328 ∧ vcs.length + 1 ≤ maxLen from by have := HN.out; have := hI.out.1; have := hI.out.2.1; simp [maxLen]; omega)
      clear hkv
      by_cases h6 : v.kind = 6
      · have H6 := Lib.hid h6
        have h6b : (v.kind == 6) = true := by simp [h6]
        have hkl : k < v.keys.length := by rw [HP.out.len h6]; exact hlt
        obtain ⟨kb, koff, eak, hk0⟩ := HK.out.at hkl
        subst eak
        replace hk0 := hm1 _ _ hk0
        have hkb := World.block_lt_of_cell? _ _ hk0
        have HKC := Lib.hid (show KeyC v k [.int .i64 4, .string v.keys[k], .slice none 0 0, .slice none 0 0] from .inl ⟨h6, hkl, rfl⟩)
        clear h6 hm1
        go_wp2_with (first
          | (at_builtin; (refine wpList_snoc em_EC rfl _ _ _ rfl rfl _ _ rfl (Snoc.flat (y := [.int .i64 4, .string v.keys[k], .slice none 0 0, .slice none 0 0]) em_EC hI.out.2.2.2.1 (lo_m0 _) (bl_alloc (Below.refl _ _) _) (fun _ => rfl) sl34 rfl (by simp [Value.oneCell']) HL1.out.1 HL1.out.2.1 hI.out.2.2.2.2.2.2.2.2.2) ?_; intro g' cap w2 hown2 hg2 hv2 hgg2; have HO2 := Lib.hid hown2; have HG2 := Lib.hid hg2; have HH2 := Lib.hid hgg2; have HV2 := Lib.hid (en_vals hI.out (bl_alloc (bl_alloc (Below.refl _ _) _) _) hg2); have HT5 := Lib.hid (grown_heap hg2 (al_old (al_new (w := wr) (o := .cells #[.int .i64 kd', .string tx', .slice ak' nk' ck', .slice a1' n1' c1'] 36) rfl)) (fun k' e => by have := (hI.out.2.2.2.1.lt k' e).2; omega)); have HS2 := Lib.hid hg2.size; clear hown2 hg2 hv2 hgg2; obtain ⟨y0, y1, y2, y3⟩ := cells4 HT5.out))
          | (at_builtin; (refine wpList_snoc em_EC rfl _ _ _ rfl rfl _ _ rfl (Snoc.flat (y := [.int .i64 kd', .string tx', .slice ak' nk' ck', .slice a1' n1' c1']) em_EC HV2.out (lo_m0 _) (Below.refl _ _) (fun _ => rfl) sl34 rfl (by simp [Value.oneCell']) HL1.out.2.2.1 HL1.out.2.2.2 (by have := HS2.out; have := hI.out.2.2.2.2.2.2.2.2.2; simp at *; omega)) ?_; intro g2 cap2 w3 hown3 hg3 hv3 hgg3; have HO3 := Lib.hid hown3; have HG3 := Lib.hid hg3; have HH3 := Lib.hid hgg3; clear hown3 hg3 hv3 hgg3)))
        go_roundw
        case rel => exact ⟨k + 1, _, _, by omega, by go_num, en_next hlt hI.out (bl_alloc (bl_alloc (Below.refl _ _) _) _) HKC.out HKV.out HO2.out HG2.out HH2.out HO3.out HG3.out HH3.out⟩
        case measure => simp [intOf]; omega
      · have h6b : (v.kind == 6) = false := by simpa using h6
        have HKC := Lib.hid (fun (tx : ByteArray) (h : tx.data.toList = digs k) => show KeyC v k [.int .i64 3, .string tx, .slice none 0 0, .slice none 0 0] from .inr ⟨h6, tx, h, rfl⟩)
        have HNU := Lib.hid (fun W => num_any k (by have := HN.out; omega) W)
        clear h6 hm1
        go_wp2_with (first
          | (go_at_call 24; refine (HNU.out _).mono ?_; rintro e w1 ⟨nt, rfl, hnt, hg⟩; have HNT := Lib.hid hnt; have HGN := Lib.hid hg; clear hnt hg)
          | (at_builtin; (refine wpList_snoc em_EC rfl _ _ _ rfl rfl _ _ rfl (Snoc.flat (y := [.int .i64 3, .string nt, .slice none 0 0, .slice none 0 0]) em_EC hI.out.2.2.2.1 (lo_m0 _) (bl_trans (bl_alloc (Below.refl _ _) _) HGN.out.below) (fun _ => rfl) sl34 rfl (by simp [Value.oneCell']) HL1.out.1 HL1.out.2.1 hI.out.2.2.2.2.2.2.2.2.2) ?_; intro g' cap w2 hown2 hg2 hv2 hgg2; have HO2 := Lib.hid hown2; have HG2 := Lib.hid hg2; have HH2 := Lib.hid hgg2; have HV2 := Lib.hid (en_vals hI.out (bl_alloc (bl_trans (bl_alloc (Below.refl _ _) _) HGN.out.below) _) hg2); have HT5 := Lib.hid (grown_heap hg2 (al_old (bl_heap HGN.out.below (al_new (w := wr) (o := .cells #[.int .i64 kd', .string tx', .slice ak' nk' ck', .slice a1' n1' c1'] 36) rfl))) (fun k' e => by have := (hI.out.2.2.2.1.lt k' e).2; omega)); have HS2 := Lib.hid (show wr.heap.size ≤ w2.heap.size from by have h1 := hg2.size; have h2 := HGN.out.below.size; simp at h1 h2; omega); clear hown2 hg2 hv2 hgg2; obtain ⟨y0, y1, y2, y3⟩ := cells4 HT5.out))
          | (at_builtin; (refine wpList_snoc em_EC rfl _ _ _ rfl rfl _ _ rfl (Snoc.flat (y := [.int .i64 kd', .string tx', .slice ak' nk' ck', .slice a1' n1' c1']) em_EC HV2.out (lo_m0 _) (Below.refl _ _) (fun _ => rfl) sl34 rfl (by simp [Value.oneCell']) HL1.out.2.2.1 HL1.out.2.2.2 (by have := HS2.out; have := hI.out.2.2.2.2.2.2.2.2.2; omega)) ?_; intro g2 cap2 w3 hown3 hg3 hv3 hgg3; have HO3 := Lib.hid hown3; have HG3 := Lib.hid hg3; have HH3 := Lib.hid hgg3; clear hown3 hg3 hv3 hgg3)))
        go_roundw
        case rel => exact ⟨k + 1, _, _, by omega, by go_num, en_next hlt hI.out (bl_alloc (bl_trans (bl_alloc (Below.refl _ _) _) HGN.out.below) _) (HKC.out _ HNT.out) HKV.out HO2.out HG2.out HH2.out HO3.out HG3.out HH3.out⟩
        case measure => simp [intOf]; omega
    · obtain rfl : k = v.kids.length := by omega
      obtain ⟨h1, h2, h3, h4, h5, h6, h7, h8, h9, h10⟩ := hI.out
      obtain ⟨a, c, rfl, lka, ra⟩ := h4.rowEC HLO.out (Nat.le_succ _)
      obtain ⟨a', c', rfl, lkb, rb⟩ := h5.rowEC HLO.out (Nat.le_succ _)
      rw [h1] at lka ra
      rw [h2] at lkb rb
      have HRES := Lib.hid (show EnQ m v w (.returned (.tuple #[.slice a kcs.length c, .slice a' vcs.length c'])) wr from by rw [h1, h2]; exact ⟨a, c, a', c', kcs, vcs, rfl, lka, lkb, h1, h2, h6, h7, ra, rb, h9⟩)
      clear lka lkb ra rb h1 h2 h3 h4 h5 h6 h7 h8 h9 hI
      go_wp2
      go_ret2
      exact HRES.out
end Go.Proofs.YtaglgokeejjagaaGreat
/- What the laws of entries need of one key: plain laws. -/
namespace Go.Proofs.YtaglgokeejjagaaGreat
set_option linter.unusedVariables false
set_option linter.unusedSimpArgs false
open Go.RowKit Go.Sort

theorem BT.wt {s : ST} (h : BT s) : Wt s := by
  induction h with
  | null | bool | num | str => exact .mk (by decide) (Nat.le_refl _) (by simp) (by simp)
  | arr h1 h2 h3 ih ih2 => exact .mk (by decide) (Nat.zero_le _) ih ih2
  | obj hk hd h1 h2 h3 ih ih2 => exact .mk (by decide) (by simp; omega) ih ih2
  | set h ih => exact .mk (by decide) (Nat.zero_le _) (fun k hk => by simp at hk; rw [hk]; exact ih) (by simp)
  | any h1 ih => exact .mk (by decide) (Nat.zero_le _) ih (by simp)
theorem RO.nt {m : Mem} {y : Value} {r : ST} (h : RO m y (some r)) : NT r := RT.nt (show RT m y r from h)
theorem SelC.more {s : ST} {x : Value} {P : Option ST → Prop} (h : SelC s x P) : SelC s x (fun o => P o ∧ ∀ r, o = some r → NT r) := fun m r w h1 h2 =>
  (h m r w h1 h2).mono fun e w' ⟨y, o, hp, e1, e2, hb⟩ => ⟨y, o, ⟨hp, fun r hr => by subst hr; exact e2.nt⟩, e1, e2, hb⟩
theorem SelC.imp {s : ST} {x : Value} {P Q : Option ST → Prop} (h : SelC s x P) (hq : ∀ o, P o → Q o) : SelC s x Q := fun m r w h1 h2 =>
  (h m r w h1 h2).mono fun e w' ⟨y, o, hp, h⟩ => ⟨y, o, hq o hp, h⟩
theorem PV.kids_kind {v : Vl} (h : PV v) : v.kids.length = 0 ∨ v.kind = 5 ∨ v.kind = 6 := by cases v; exact h.out.2.2.2.1
/-- A type that holds the value, small enough. -/
def YesR (u : Vl) (o : Option ST) : Prop := ∃ r, o = some r ∧ NT r ∧ InP r u ∧ WS r ≤ 1000000
theorem YesR.w {u : Vl} {o : Option ST} (h : YesR u o) : oW o ≤ 1000000000 := by
  obtain ⟨r, rfl, _, _, h⟩ := h; rw [oW]; omega
theorem yes_of {s : ST} {x : Value} {v u : Vl} {o : Option ST} (hs : NT s) (hw : WS s ≤ 5000) (hv : PV v) (hi : InP s v) (he : Ent v x u) (h : SelR s x o) (hn : ∀ r, o = some r → NT r) : YesR u o := by
  obtain ⟨r, rfl, hr⟩ := h.1 v u hv hi he
  have h2 := h.2
  have h3 := WS_ow r (hn r rfl)
  rw [OWo] at h2
  exact ⟨r, rfl, hn r rfl, hr, by omega⟩
theorem sel_entry {t : IT} {v : Vl} {i : Nat} {c : List Value} (hpt : PT (toS t)) (hw : WI t ≤ 5000) (hv : PV v) (hwv : WV v ≤ 5000) (hi : InP (toS t) v) (hl : i < v.kids.length) (hc : KeyC v i c) (hmx : v.kind = 5 → (toS t).kind = 8 → ∀ k ∈ (toS t).kids, k.kind ≠ 6) :
    ∃ kd tx x, c = [.int .i64 kd, .string tx, .slice none 0 0, .slice none 0 0] ∧ ValC (keyV kd tx) x ∧ SelC (nrm (toS t)) x (YesR v.kids[i]) := by
  have hb := pt_bt hpt
  have hn := nrm_nt hb
  have hsd := nrm_sd hb
  have hna := nrm_na hb (pt_na hpt)
  have hin := nrm_in hb v hv hi
  have hws : WS (nrm (toS t)) ≤ 5000 := by rw [nrm_WS hb, WS_toS]; exact hw
  have hl5 : v.kids.length ≤ 5000 := Nat.le_trans (WV_kids v) hwv
  rcases hc with ⟨h6, hk, rfl⟩ | ⟨h6, tx, ht, rfl⟩
  · refine ⟨4, v.keys[i], _, rfl, valC_str, (sel_text hn hsd hna (by omega)).more.imp fun o ⟨ho, hno⟩ => yes_of hn hws hv hin (.obj h6 hk hl) ho hno⟩
  · have h5 : v.kind = 5 := by
      rcases hv.kids_kind with h | h | h
      · omega
      · exact h
      · exact absurd h h6
    have hk6 : (nrm (toS t)).kind ≠ 6 := fun e => by
      have := ((inP_obj e).1 hin).1; omega
    have hkk : (nrm (toS t)).kind = 8 → ∀ k ∈ (nrm (toS t)).kids, k.kind ≠ 6 := fun e k hk => by
      rw [nrm_kind] at e
      have hm := hmx h5 e
      cases hb' : toS t with
      | mk kd ks kids more =>
        rw [hb'] at hb e hm hk
        simp only [ST.kind] at e
        subst e
        obtain ⟨rfl, _, rfl⟩ := bt_8 hb
        rw [nrm_8] at hk
        simp only [ST.kids] at hk hm
        obtain ⟨k0, hk0, rfl⟩ := List.mem_map.1 ((srtT_perm _).mem_iff.1 hk)
        rw [nrm_kind]
        exact hm k0 hk0
    exact ⟨3, tx, _, rfl, valC_num, (sel_numb ht (by omega) hn hna hk6 hkk (by omega)).more.imp fun o ⟨ho, hno⟩ => yes_of hn hws hv hin (.arr h5 hl ht) ho hno⟩
def LawQ (w : World) (e : Ending) (w' : World) : Prop := e = .returned (.bool true) ∧ Below w.heap.size w w'
def BoP (b : Bool) (w : World) (e : Ending) (w' : World) : Prop := e = .returned (.bool b) ∧ Gr w w'
theorem kind_of {t : IT} (h : WI t ≤ 5000) : kindOf t = toS t := by unfold kindOf; rw [if_pos h]
theorem yes_bd {u : Vl} {o : Option ST} (h : YesR u o) : BdI (oI o) := by
  obtain ⟨r, rfl, _, _, hw⟩ := h; exact bdI_toI r (by omega)
theorem yes_in {u : Vl} {o : Option ST} (h : YesR u o) (hu : PV u) {W : World} {kv' : Int} {tx' : ByteArray} {akv' : Option Addr} {nkv' ckv' : Nat} {a1v' : Option Addr} {n1v' c1v' : Nat} {kd' : Int} {ak' : Option Addr} {nk' ck' : Nat} {a1' : Option Addr} {n1' c1' : Nat} {a2' : Option Addr} {n2' c2' : Nat} (h3 : MV W.cell? (vlCells kv' tx' akv' nkv' ckv' a1v' n1v' c1v') u) (h4 : MST W.cell? (stCells kd' ak' nk' ck' a1' n1' c1' a2' n2' c2') (givenOf (oI o))) :
    Calls Tryz.prog 15 #[.agg #[.int .i64 kv', .string tx', .slice akv' nkv' ckv', .slice a1v' n1v' c1v'], .agg #[.int .i64 kd', .slice ak' nk' ck', .slice a1' n1' c1', .slice a2' n2' c2']] W (BoP true W) := by
  obtain ⟨r, rfl, hn, hi, hw⟩ := h
  rw [oI, given_toI hw] at h4
  exact (in_any r u W.cell? _ _ _ _ _ _ _ _ _ _ _ _ _ _ _ _ _ _ W hn.wt (wv_of _ hu) h3 h4 (MLe.refl _)).mono fun e w' h => ⟨by rw [h.1, inT_true hi], h.2⟩
theorem kc_at {m : Mem} {a : Option Addr} {n k : Nat} {kcs : List (List Value)} {v0 v1 v2 v3 : Value} (hr : Row m 4 a n (fun i => kcs.getD i [])) (hk : k < n) (hl : k < kcs.length) (hc : kcs[k] = [v0, v1, v2, v3]) :
    ∃ b off, a = some ⟨b, off, none⟩ ∧ m ⟨b, off + k * 4, none⟩ = some v0 ∧ m ⟨b, off + k * 4 + 1, none⟩ = some v1 ∧ m ⟨b, off + k * 4 + 2, none⟩ = some v2 ∧ m ⟨b, off + k * 4 + 3, none⟩ = some v3 := by
  obtain ⟨b, off, e, h⟩ := Row.at hr hk
  have e2 : kcs.getD k [] = [v0, v1, v2, v3] := by rw [List.getD_eq_getElem?_getD, List.getElem?_eq_getElem hl, hc]; rfl
  simp only [e2] at h
  exact ⟨b, off, e, h 0 v0 rfl, h 1 v1 rfl, h 2 v2 rfl, h 3 v3 rfl⟩
end Go.Proofs.YtaglgokeejjagaaGreat
