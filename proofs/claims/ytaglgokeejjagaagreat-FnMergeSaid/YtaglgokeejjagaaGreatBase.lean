/- The plain data of the proofs (types and values as trees), how they lie in memory, and the frame 'Gr': a later world is the old one with draws and new blocks behind. -/
import Derived.Test.YtaglgokeejjagaaGreatFacts
import Derived.Shelf.SlSortCmp.QuietGrown
import Derived.Lib.Hide
namespace Go.Proofs.YtaglgokeejjagaaGreat
open Go.RowKit Go.Sort

/-! ### Data -/
structure Ky where
  kind : Int
  text : ByteArray
  deriving Inhabited, DecidableEq

/-- A type of the thin package. -/
inductive IT where
  | mk (kind : Int) (name text : ByteArray) (keys : List Ky) (kids more : List IT)
/-- A type of the reference; a type of the package as a tree, too. -/
inductive ST where
  | mk (kind : Int) (keys : List Ky) (kids more : List ST)
/-- A value. -/
inductive Vl where
  | mk (kind : Int) (text : ByteArray) (keys : List ByteArray) (kids : List Vl)

namespace IT
def kind : IT → Int | .mk k _ _ _ _ _ => k
def name : IT → ByteArray | .mk _ n _ _ _ _ => n
def text : IT → ByteArray | .mk _ _ x _ _ _ => x
def keys : IT → List Ky | .mk _ _ _ k _ _ => k
def kids : IT → List IT | .mk _ _ _ _ k _ => k
def more : IT → List IT | .mk _ _ _ _ _ m => m
end IT
namespace ST
def kind : ST → Int | .mk k _ _ _ => k
def keys : ST → List Ky | .mk _ k _ _ => k
def kids : ST → List ST | .mk _ _ k _ => k
def more : ST → List ST | .mk _ _ _ m => m
end ST
namespace Vl
def kind : Vl → Int | .mk k _ _ _ => k
def text : Vl → ByteArray | .mk _ x _ _ => x
def keys : Vl → List ByteArray | .mk _ _ k _ => k
def kids : Vl → List Vl | .mk _ _ _ k => k
end Vl

/-! ### The frame -/
/-- The world w' is w, some orders drawn, some blocks laid behind. -/
structure Gr (w w' : World) : Prop where
  out : ∃ q os, w' = grow (w.drewN q) os

theorem Gr.refl (w : World) : Gr w w := ⟨0, #[], by rw [grow_empty]; rfl⟩
theorem Gr.trans {a b c : World} (h : Gr a b) (k : Gr b c) : Gr a c := by
  obtain ⟨q, os, rfl⟩ := h.out
  obtain ⟨r, os', rfl⟩ := k.out
  exact ⟨q + r, os ++ os', by
    show grow (grow ((a.drewN q).drewN r) os) os' = _
    rw [grow_grow, World.drewN_drewN]⟩
theorem Gr.alloc {a b : World} (h : Gr a b) (o : Obj) : Gr a (b.alloc o) := h.trans ⟨0, #[o], alloc_eq_grow _ _⟩
theorem Gr.size {w w' : World} (h : Gr w w') : w.heap.size ≤ w'.heap.size := by
  obtain ⟨q, os, rfl⟩ := h.out
  rw [size_grow]; exact Nat.le_add_right _ _
theorem Gr.block {w w' : World} (h : Gr w w') {k : Nat} (hk : k < w.heap.size) : w'.heap[k]? = w.heap[k]? := by
  obtain ⟨q, os, rfl⟩ := h.out
  exact heap_grow_old (w.drewN q) os hk
theorem Gr.setCell {a b : World} (h : Gr a b) {p : Addr} (hp : a.heap.size ≤ p.block) (v : Value) : Gr a (b.setCell p v) := by
  obtain ⟨q, os, rfl⟩ := h.out
  refine ⟨q, os.modify (p.block - a.heap.size) ?_, ?_⟩
  · exact fun o => match o with
      | .cells c elem frozen => .cells (if p.spot.isSome then c else c.setIfInBounds p.off v) elem frozen
      | o => o
  · have e : ∀ g : Obj → Obj, ((a.drewN q).heap ++ os).modify p.block g = (a.drewN q).heap ++ os.modify (p.block - a.heap.size) g := fun g => modify_append_right _ _ _ _ hp
    simp only [World.setCell, Sort.grow, e]
    rfl
theorem Gr.below {w w' : World} (h : Gr w w') : Below w.heap.size w w' := by
  obtain ⟨q, os, rfl⟩ := h.out
  exact ⟨rfl, rfl, rfl, by rw [size_grow]; exact Nat.le_add_right _ _, fun k hk => heap_grow_old (w.drewN q) os hk⟩
theorem Gr.cell {w w' : World} (h : Gr w w') {a : Addr} {v : Value} (hc : w.cell? a = some v) : w'.cell? a = some v :=
  (h.below.cell (World.block_lt_of_cell? w a hc)).trans hc
/-- A callee that lays blocks alone, met inside a region that draws its order. -/
theorem quiet_gr {P : Program} {f : FuncId} {args : Array Value} {w : World} {n : Nat} {os : Array Obj} {v : Value}
    (h : Calls P f args (grow (w.drewN n) os) fun e w' => e = .returned v ∧ Gr (grow (w.drewN n) os) w') : Calls P f args (grow (w.drewN n) os) fun e w'' => e = .returned v ∧ ∃ p : GrownBy, w'' = grow (w.drewN p.n) p.os :=
  Calls.grown_of (h.mono fun _ _ ⟨he, hg⟩ => ⟨he, hg.out⟩)

theorem gr_grow (w : World) (n : Nat) (os : Array Obj) : Gr w (grow (w.drewN n) os) := ⟨n, os, rfl⟩

/-! ### Memory -/
abbrev Mem := Addr → Option Value
/-- What the one memory holds the other one holds. -/
def MLe (m m' : Mem) : Prop := ∀ a x, m a = some x → m' a = some x
theorem MLe.refl (m : Mem) : MLe m m := fun _ _ h => h
theorem MLe.trans {a b c : Mem} (h : MLe a b) (k : MLe b c) : MLe a c := fun _ _ e => k _ _ (h _ _ e)
theorem Gr.mle {w w' : World} (h : Gr w w') : MLe w.cell? w'.cell? := fun _ _ e => h.cell e
theorem mle_below {w w' : World} (h : Below w.heap.size w w') : MLe w.cell? w'.cell? := fun a _ e => (h.cell (World.block_lt_of_cell? w a e)).trans e

/-- n elements of sz cells each from a on: element i has the cells f i. -/
def Row (m : Mem) (sz : Nat) (a : Option Addr) (n : Nat) (f : Nat → List Value) : Prop :=
  0 < n → ∃ b off, a = some ⟨b, off, none⟩ ∧ ∀ i, i < n → ∀ j v, (f i)[j]? = some v → m ⟨b, off + i * sz + j, none⟩ = some v
theorem Row.mono {m m' : Mem} {sz : Nat} {a : Option Addr} {n : Nat} {f : Nat → List Value} (h : Row m sz a n f) (hm : MLe m m') : Row m' sz a n f := fun hn => by
  obtain ⟨b, off, e, hc⟩ := h hn
  exact ⟨b, off, e, fun i hi j v hj => hm _ _ (hc i hi j v hj)⟩

/-- The greatest length that is asked of memory. -/
def lenOk (n c : Nat) : Prop := n ≤ c ∧ c ≤ 9223372036854775807

def kyCells (k : Ky) : List Value := [.int .i64 k.kind, .string k.text]
def strCells (s : ByteArray) : List Value := [.string s]
def RowK (m : Mem) (a : Option Addr) (keys : List Ky) : Prop := Row m 2 a keys.length fun i => kyCells (keys.getD i default)
def RowS (m : Mem) (a : Option Addr) (keys : List ByteArray) : Prop := Row m 1 a keys.length fun i => strCells (keys.getD i default)
theorem RowK.mono {m m' : Mem} {a : Option Addr} {ks : List Ky} (h : RowK m a ks) (hm : MLe m m') : RowK m' a ks := Row.mono h hm
theorem RowS.mono {m m' : Mem} {a : Option Addr} {ks : List ByteArray} (h : RowS m a ks) (hm : MLe m m') : RowS m' a ks := Row.mono h hm

/-- A struct impl.Type in memory, by its six cells. -/
inductive MIT (m : Mem) : List Value → IT → Prop
  | mk {kind : Int} {name text : ByteArray} {keys : List Ky} {kids more : List IT} {ak a1 a2 : Option Addr} {ck c1 c2 : Nat} {f1 f2 : Nat → List Value}
      (lk : lenOk keys.length ck) (l1 : lenOk kids.length c1) (l2 : lenOk more.length c2)
      (rk : RowK m ak keys) (r1 : Row m 6 a1 kids.length f1) (h1 : ∀ i (h : i < kids.length), MIT m (f1 i) kids[i])
      (r2 : Row m 6 a2 more.length f2) (h2 : ∀ i (h : i < more.length), MIT m (f2 i) more[i]) :
      MIT m [.int .i64 kind, .string name, .string text, .slice ak keys.length ck, .slice a1 kids.length c1, .slice a2 more.length c2] (.mk kind name text keys kids more)
theorem MIT.mono {m m' : Mem} (hm : MLe m m') {c : List Value} {t : IT} (h : MIT m c t) : MIT m' c t := by
  induction h with
  | mk lk l1 l2 rk r1 _ r2 _ i1 i2 => exact .mk lk l1 l2 (rk.mono hm) (r1.mono hm) i1 (r2.mono hm) i2

/-- A struct spec.Type in memory, by its four cells. -/
inductive MST (m : Mem) : List Value → ST → Prop
  | mk {kind : Int} {keys : List Ky} {kids more : List ST} {ak a1 a2 : Option Addr} {ck c1 c2 : Nat} {f1 f2 : Nat → List Value}
      (lk : lenOk keys.length ck) (l1 : lenOk kids.length c1) (l2 : lenOk more.length c2)
      (rk : RowK m ak keys) (r1 : Row m 4 a1 kids.length f1) (h1 : ∀ i (h : i < kids.length), MST m (f1 i) kids[i])
      (r2 : Row m 4 a2 more.length f2) (h2 : ∀ i (h : i < more.length), MST m (f2 i) more[i]) :
      MST m [.int .i64 kind, .slice ak keys.length ck, .slice a1 kids.length c1, .slice a2 more.length c2] (.mk kind keys kids more)
theorem MST.mono {m m' : Mem} (hm : MLe m m') {c : List Value} {t : ST} (h : MST m c t) : MST m' c t := by
  induction h with
  | mk lk l1 l2 rk r1 _ r2 _ i1 i2 => exact .mk lk l1 l2 (rk.mono hm) (r1.mono hm) i1 (r2.mono hm) i2

/-- A struct Value (of impl or of spec) in memory, by its four cells. -/
inductive MV (m : Mem) : List Value → Vl → Prop
  | mk {kind : Int} {text : ByteArray} {keys : List ByteArray} {kids : List Vl} {ak a1 : Option Addr} {ck c1 : Nat} {f1 : Nat → List Value}
      (lk : lenOk keys.length ck) (l1 : lenOk kids.length c1)
      (rk : RowS m ak keys) (r1 : Row m 4 a1 kids.length f1) (h1 : ∀ i (h : i < kids.length), MV m (f1 i) kids[i]) :
      MV m [.int .i64 kind, .string text, .slice ak keys.length ck, .slice a1 kids.length c1] (.mk kind text keys kids)
theorem MV.mono {m m' : Mem} (hm : MLe m m') {c : List Value} {t : Vl} (h : MV m c t) : MV m' c t := by
  induction h with
  | mk lk l1 rk r1 _ i1 => exact .mk lk l1 (rk.mono hm) (r1.mono hm) i1

/-- Element i of a row, its address written out. -/
theorem Row.at {m : Mem} {sz : Nat} {a : Option Addr} {n : Nat} {f : Nat → List Value} (h : Row m sz a n f) {i : Nat} (hi : i < n) :
    ∃ b off, a = some ⟨b, off, none⟩ ∧ ∀ j v, (f i)[j]? = some v → m ⟨b, off + i * sz + j, none⟩ = some v := by
  obtain ⟨b, off, e, hc⟩ := h (Nat.lt_of_le_of_lt (Nat.zero_le _) hi)
  exact ⟨b, off, e, hc i hi⟩
theorem RowK.at {m : Mem} {a : Option Addr} {ks : List Ky} (h : RowK m a ks) {i : Nat} (hi : i < ks.length) :
    ∃ b off, a = some ⟨b, off, none⟩ ∧ m ⟨b, off + i * 2, none⟩ = some (.int .i64 ks[i].kind) ∧ m ⟨b, off + i * 2 + 1, none⟩ = some (.string ks[i].text) := by
  obtain ⟨b, off, e, hc⟩ := Row.at h hi
  have e2 : ks.getD i default = ks[i] := by simp [hi]
  rw [e2] at hc
  exact ⟨b, off, e, hc 0 _ rfl, hc 1 _ rfl⟩
theorem RowS.at {m : Mem} {a : Option Addr} {ks : List ByteArray} (h : RowS m a ks) {i : Nat} (hi : i < ks.length) :
    ∃ b off, a = some ⟨b, off, none⟩ ∧ m ⟨b, off + i, none⟩ = some (.string ks[i]) := by
  obtain ⟨b, off, e, hc⟩ := Row.at h hi
  have e2 : ks.getD i default = ks[i] := by simp [hi]
  rw [e2] at hc
  have := hc 0 _ rfl
  rw [Nat.mul_one] at this
  exact ⟨b, off, e, this⟩

/-! The four and six cells with their shapes. -/
abbrev stCells (kd : Int) (ak : Option Addr) (nk ck : Nat) (a1 : Option Addr) (n1 c1 : Nat) (a2 : Option Addr) (n2 c2 : Nat) : List Value := [.int .i64 kd, .slice ak nk ck, .slice a1 n1 c1, .slice a2 n2 c2]
abbrev vlCells (kd : Int) (tx : ByteArray) (ak : Option Addr) (nk ck : Nat) (a1 : Option Addr) (n1 c1 : Nat) : List Value := [.int .i64 kd, .string tx, .slice ak nk ck, .slice a1 n1 c1]
abbrev itCells (kd : Int) (nm tx : ByteArray) (ak : Option Addr) (nk ck : Nat) (a1 : Option Addr) (n1 c1 : Nat) (a2 : Option Addr) (n2 c2 : Nat) : List Value := [.int .i64 kd, .string nm, .string tx, .slice ak nk ck, .slice a1 n1 c1, .slice a2 n2 c2]

theorem MST.shape {m : Mem} {cs : List Value} {t : ST} (h : MST m cs t) : ∃ kd ak nk ck a1 n1 c1 a2 n2 c2, cs = stCells kd ak nk ck a1 n1 c1 a2 n2 c2 := by
  cases h; exact ⟨_, _, _, _, _, _, _, _, _, _, rfl⟩
theorem MV.shape {m : Mem} {cs : List Value} {t : Vl} (h : MV m cs t) : ∃ kd tx ak nk ck a1 n1 c1, cs = vlCells kd tx ak nk ck a1 n1 c1 := by
  cases h; exact ⟨_, _, _, _, _, _, _, _, rfl⟩
theorem MIT.shape {m : Mem} {cs : List Value} {t : IT} (h : MIT m cs t) : ∃ kd nm tx ak nk ck a1 n1 c1 a2 n2 c2, cs = itCells kd nm tx ak nk ck a1 n1 c1 a2 n2 c2 := by
  cases h; exact ⟨_, _, _, _, _, _, _, _, _, _, _, _, rfl⟩

/-- A row of spec.Type's, nil too. -/
def RowST (m : Mem) (a : Option Addr) (ts : List ST) : Prop := ∃ f, Row m 4 a ts.length f ∧ ∀ i (h : i < ts.length), MST m (f i) ts[i]
def RowV (m : Mem) (a : Option Addr) (ts : List Vl) : Prop := ∃ f, Row m 4 a ts.length f ∧ ∀ i (h : i < ts.length), MV m (f i) ts[i]
def RowIT (m : Mem) (a : Option Addr) (ts : List IT) : Prop := ∃ f, Row m 6 a ts.length f ∧ ∀ i (h : i < ts.length), MIT m (f i) ts[i]
theorem RowST.mono {m m' : Mem} {a : Option Addr} {ts : List ST} (h : RowST m a ts) (hm : MLe m m') : RowST m' a ts := by
  obtain ⟨f, r, h⟩ := h; exact ⟨f, r.mono hm, fun i hi => (h i hi).mono hm⟩
theorem RowV.mono {m m' : Mem} {a : Option Addr} {ts : List Vl} (h : RowV m a ts) (hm : MLe m m') : RowV m' a ts := by
  obtain ⟨f, r, h⟩ := h; exact ⟨f, r.mono hm, fun i hi => (h i hi).mono hm⟩
theorem RowIT.mono {m m' : Mem} {a : Option Addr} {ts : List IT} (h : RowIT m a ts) (hm : MLe m m') : RowIT m' a ts := by
  obtain ⟨f, r, h⟩ := h; exact ⟨f, r.mono hm, fun i hi => (h i hi).mono hm⟩

theorem MST.open {m : Mem} {kd : Int} {ak a1 a2 : Option Addr} {nk ck n1 c1 n2 c2 : Nat} {t : ST} (h : MST m (stCells kd ak nk ck a1 n1 c1 a2 n2 c2) t) :
    kd = t.kind ∧ nk = t.keys.length ∧ n1 = t.kids.length ∧ n2 = t.more.length ∧ lenOk nk ck ∧ lenOk n1 c1 ∧ lenOk n2 c2 ∧ RowK m ak t.keys ∧ RowST m a1 t.kids ∧ RowST m a2 t.more := by
  cases h with
  | mk lk l1 l2 rk r1 h1 r2 h2 => exact ⟨rfl, rfl, rfl, rfl, lk, l1, l2, rk, ⟨_, r1, h1⟩, ⟨_, r2, h2⟩⟩
theorem MST.close {m : Mem} {ak a1 a2 : Option Addr} {ck c1 c2 : Nat} {kd : Int} {ks : List Ky} {kids more : List ST} (lk : lenOk ks.length ck) (l1 : lenOk kids.length c1) (l2 : lenOk more.length c2)
    (rk : RowK m ak ks) (r1 : RowST m a1 kids) (r2 : RowST m a2 more) : MST m (stCells kd ak ks.length ck a1 kids.length c1 a2 more.length c2) (.mk kd ks kids more) := by
  obtain ⟨_, r1, h1⟩ := r1; obtain ⟨_, r2, h2⟩ := r2; exact .mk lk l1 l2 rk r1 h1 r2 h2
theorem MIT.open {m : Mem} {kd : Int} {nm tx : ByteArray} {ak a1 a2 : Option Addr} {nk ck n1 c1 n2 c2 : Nat} {t : IT} (h : MIT m (itCells kd nm tx ak nk ck a1 n1 c1 a2 n2 c2) t) :
    kd = t.kind ∧ nm = t.name ∧ tx = t.text ∧ nk = t.keys.length ∧ n1 = t.kids.length ∧ n2 = t.more.length ∧ lenOk nk ck ∧ lenOk n1 c1 ∧ lenOk n2 c2 ∧ RowK m ak t.keys ∧ RowIT m a1 t.kids ∧ RowIT m a2 t.more := by
  cases h with
  | mk lk l1 l2 rk r1 h1 r2 h2 => exact ⟨rfl, rfl, rfl, rfl, rfl, rfl, lk, l1, l2, rk, ⟨_, r1, h1⟩, ⟨_, r2, h2⟩⟩
theorem MIT.close {m : Mem} {ak a1 a2 : Option Addr} {ck c1 c2 : Nat} {kd : Int} {nm tx : ByteArray} {ks : List Ky} {kids more : List IT} (lk : lenOk ks.length ck) (l1 : lenOk kids.length c1) (l2 : lenOk more.length c2)
    (rk : RowK m ak ks) (r1 : RowIT m a1 kids) (r2 : RowIT m a2 more) : MIT m (itCells kd nm tx ak ks.length ck a1 kids.length c1 a2 more.length c2) (.mk kd nm tx ks kids more) := by
  obtain ⟨_, r1, h1⟩ := r1; obtain ⟨_, r2, h2⟩ := r2; exact .mk lk l1 l2 rk r1 h1 r2 h2
theorem MV.open {m : Mem} {kd : Int} {tx : ByteArray} {ak a1 : Option Addr} {nk ck n1 c1 : Nat} {t : Vl} (h : MV m (vlCells kd tx ak nk ck a1 n1 c1) t) :
    kd = t.kind ∧ tx = t.text ∧ nk = t.keys.length ∧ n1 = t.kids.length ∧ lenOk nk ck ∧ lenOk n1 c1 ∧ RowS m ak t.keys ∧ RowV m a1 t.kids := by
  cases h with
  | mk lk l1 rk r1 h1 => exact ⟨rfl, rfl, rfl, rfl, lk, l1, rk, ⟨_, r1, h1⟩⟩
theorem MV.close {m : Mem} {ak a1 : Option Addr} {ck c1 : Nat} {kd : Int} {tx : ByteArray} {ks : List ByteArray} {kids : List Vl} (lk : lenOk ks.length ck) (l1 : lenOk kids.length c1)
    (rk : RowS m ak ks) (r1 : RowV m a1 kids) : MV m (vlCells kd tx ak ks.length ck a1 kids.length c1) (.mk kd tx ks kids) := by
  obtain ⟨_, r1, h1⟩ := r1; exact .mk lk l1 rk r1 h1

theorem MV.close' {m : Mem} {ak a1 : Option Addr} {ck c1 : Nat} {t : Vl} (lk : lenOk t.keys.length ck) (l1 : lenOk t.kids.length c1)
    (rk : RowS m ak t.keys) (r1 : RowV m a1 t.kids) : MV m (vlCells t.kind t.text ak t.keys.length ck a1 t.kids.length c1) t := by
  cases t; exact MV.close lk l1 rk r1
theorem MST.close' {m : Mem} {ak a1 a2 : Option Addr} {ck c1 c2 : Nat} {t : ST} (lk : lenOk t.keys.length ck) (l1 : lenOk t.kids.length c1) (l2 : lenOk t.more.length c2)
    (rk : RowK m ak t.keys) (r1 : RowST m a1 t.kids) (r2 : RowST m a2 t.more) : MST m (stCells t.kind ak t.keys.length ck a1 t.kids.length c1 a2 t.more.length c2) t := by
  cases t; exact MST.close lk l1 l2 rk r1 r2

/-- Element i of a row of spec.Type's: its four cells, and that they hold the type. -/
theorem RowST.at {m : Mem} {a : Option Addr} {ts : List ST} (h : RowST m a ts) {i : Nat} (hi : i < ts.length) :
    ∃ b off kd ak nk ck a1 n1 c1 a2 n2 c2, a = some ⟨b, off, none⟩ ∧ m ⟨b, off + i * 4, none⟩ = some (.int .i64 kd) ∧ m ⟨b, off + i * 4 + 1, none⟩ = some (.slice ak nk ck) ∧
      m ⟨b, off + i * 4 + 2, none⟩ = some (.slice a1 n1 c1) ∧ m ⟨b, off + i * 4 + 3, none⟩ = some (.slice a2 n2 c2) ∧ MST m (stCells kd ak nk ck a1 n1 c1 a2 n2 c2) ts[i] := by
  obtain ⟨f, r, h⟩ := h
  obtain ⟨b, off, e, hc⟩ := r.at hi
  have h := h i hi
  obtain ⟨kd, ak, nk, ck, a1, n1, c1, a2, n2, c2, e2⟩ := h.shape
  rw [e2] at h hc
  exact ⟨b, off, kd, ak, nk, ck, a1, n1, c1, a2, n2, c2, e, hc 0 _ rfl, hc 1 _ rfl, hc 2 _ rfl, hc 3 _ rfl, h⟩
theorem RowV.at {m : Mem} {a : Option Addr} {ts : List Vl} (h : RowV m a ts) {i : Nat} (hi : i < ts.length) :
    ∃ b off kd tx ak nk ck a1 n1 c1, a = some ⟨b, off, none⟩ ∧ m ⟨b, off + i * 4, none⟩ = some (.int .i64 kd) ∧ m ⟨b, off + i * 4 + 1, none⟩ = some (.string tx) ∧
      m ⟨b, off + i * 4 + 2, none⟩ = some (.slice ak nk ck) ∧ m ⟨b, off + i * 4 + 3, none⟩ = some (.slice a1 n1 c1) ∧ MV m (vlCells kd tx ak nk ck a1 n1 c1) ts[i] := by
  obtain ⟨f, r, h⟩ := h
  obtain ⟨b, off, e, hc⟩ := r.at hi
  have h := h i hi
  obtain ⟨kd, tx, ak, nk, ck, a1, n1, c1, e2⟩ := h.shape
  rw [e2] at h hc
  exact ⟨b, off, kd, tx, ak, nk, ck, a1, n1, c1, e, hc 0 _ rfl, hc 1 _ rfl, hc 2 _ rfl, hc 3 _ rfl, h⟩
theorem RowIT.at {m : Mem} {a : Option Addr} {ts : List IT} (h : RowIT m a ts) {i : Nat} (hi : i < ts.length) :
    ∃ b off kd nm tx ak nk ck a1 n1 c1 a2 n2 c2, a = some ⟨b, off, none⟩ ∧ m ⟨b, off + i * 6, none⟩ = some (.int .i64 kd) ∧ m ⟨b, off + i * 6 + 1, none⟩ = some (.string nm) ∧
      m ⟨b, off + i * 6 + 2, none⟩ = some (.string tx) ∧ m ⟨b, off + i * 6 + 3, none⟩ = some (.slice ak nk ck) ∧ m ⟨b, off + i * 6 + 4, none⟩ = some (.slice a1 n1 c1) ∧
      m ⟨b, off + i * 6 + 5, none⟩ = some (.slice a2 n2 c2) ∧ MIT m (itCells kd nm tx ak nk ck a1 n1 c1 a2 n2 c2) ts[i] := by
  obtain ⟨f, r, h⟩ := h
  obtain ⟨b, off, e, hc⟩ := r.at hi
  have h := h i hi
  obtain ⟨kd, nm, tx, ak, nk, ck, a1, n1, c1, a2, n2, c2, e2⟩ := h.shape
  rw [e2] at h hc
  exact ⟨b, off, kd, nm, tx, ak, nk, ck, a1, n1, c1, a2, n2, c2, e, hc 0 _ rfl, hc 1 _ rfl, hc 2 _ rfl, hc 3 _ rfl, hc 4 _ rfl, hc 5 _ rfl, h⟩

theorem ret_int64 {a b : Int} (h : a = b) : Ending.returned (.int .i64 a) = .returned (.int .i64 b) := by rw [h]

end Go.Proofs.YtaglgokeejjagaaGreat
