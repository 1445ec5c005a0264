/- Closed facts of the program for the walk: what each type assertion says of a value of each dynamic type, and what becomes an interface value. -/
import Derived.Test.YtaglgokeejjagaaGreatProg
import Derived.WalkKit
import Derived.WalkSpells
import Derived.WalkLawsBesides
namespace Go.Proofs.YtaglgokeejjagaaGreat
open Go.RowKit

@[go_sem] theorem ta20_4_4 (v : Value) (w : World) : (Instr.typeAssert (.iface 4 v) 20 4 true).run Tryz.prog w = .ok (.tuple #[v, .bool true]) w := by kernel_rfl
@[go_sem] theorem tb20_4_4 (v : Value) (w : World) : (Instr.typeAssert (.iface 4 v) 20 4 false).run Tryz.prog w = .ok v w := by kernel_rfl
@[go_sem] theorem ta20_9_4 (v : Value) (w : World) : (Instr.typeAssert (.iface 9 v) 20 4 true).run Tryz.prog w = .ok (.tuple #[.bool false, .bool false]) w := by kernel_rfl
@[go_sem] theorem ta20_119_4 (v : Value) (w : World) : (Instr.typeAssert (.iface 119 v) 20 4 true).run Tryz.prog w = .ok (.tuple #[.bool false, .bool false]) w := by kernel_rfl
@[go_sem] theorem ta20_147_4 (v : Value) (w : World) : (Instr.typeAssert (.iface 147 v) 20 4 true).run Tryz.prog w = .ok (.tuple #[.bool false, .bool false]) w := by kernel_rfl
@[go_sem] theorem ta20_148_4 (v : Value) (w : World) : (Instr.typeAssert (.iface 148 v) 20 4 true).run Tryz.prog w = .ok (.tuple #[.bool false, .bool false]) w := by kernel_rfl
@[go_sem] theorem ta20_nil_4 (w : World) : (Instr.typeAssert .nilIface 20 4 true).run Tryz.prog w = .ok (.tuple #[.bool false, .bool false]) w := by kernel_rfl
@[go_sem] theorem ta20_4_9 (v : Value) (w : World) : (Instr.typeAssert (.iface 4 v) 20 9 true).run Tryz.prog w = .ok (.tuple #[.string ByteArray.empty, .bool false]) w := by kernel_rfl
@[go_sem] theorem ta20_9_9 (v : Value) (w : World) : (Instr.typeAssert (.iface 9 v) 20 9 true).run Tryz.prog w = .ok (.tuple #[v, .bool true]) w := by kernel_rfl
@[go_sem] theorem tb20_9_9 (v : Value) (w : World) : (Instr.typeAssert (.iface 9 v) 20 9 false).run Tryz.prog w = .ok v w := by kernel_rfl
@[go_sem] theorem ta20_119_9 (v : Value) (w : World) : (Instr.typeAssert (.iface 119 v) 20 9 true).run Tryz.prog w = .ok (.tuple #[.string ByteArray.empty, .bool false]) w := by kernel_rfl
@[go_sem] theorem ta20_147_9 (v : Value) (w : World) : (Instr.typeAssert (.iface 147 v) 20 9 true).run Tryz.prog w = .ok (.tuple #[.string ByteArray.empty, .bool false]) w := by kernel_rfl
@[go_sem] theorem ta20_148_9 (v : Value) (w : World) : (Instr.typeAssert (.iface 148 v) 20 9 true).run Tryz.prog w = .ok (.tuple #[.string ByteArray.empty, .bool false]) w := by kernel_rfl
@[go_sem] theorem ta20_nil_9 (w : World) : (Instr.typeAssert .nilIface 20 9 true).run Tryz.prog w = .ok (.tuple #[.string ByteArray.empty, .bool false]) w := by kernel_rfl
@[go_sem] theorem ta20_4_119 (v : Value) (w : World) : (Instr.typeAssert (.iface 4 v) 20 119 true).run Tryz.prog w = .ok (.tuple #[.string ByteArray.empty, .bool false]) w := by kernel_rfl
@[go_sem] theorem ta20_9_119 (v : Value) (w : World) : (Instr.typeAssert (.iface 9 v) 20 119 true).run Tryz.prog w = .ok (.tuple #[.string ByteArray.empty, .bool false]) w := by kernel_rfl
@[go_sem] theorem ta20_119_119 (v : Value) (w : World) : (Instr.typeAssert (.iface 119 v) 20 119 true).run Tryz.prog w = .ok (.tuple #[v, .bool true]) w := by kernel_rfl
@[go_sem] theorem tb20_119_119 (v : Value) (w : World) : (Instr.typeAssert (.iface 119 v) 20 119 false).run Tryz.prog w = .ok v w := by kernel_rfl
@[go_sem] theorem ta20_147_119 (v : Value) (w : World) : (Instr.typeAssert (.iface 147 v) 20 119 true).run Tryz.prog w = .ok (.tuple #[.string ByteArray.empty, .bool false]) w := by kernel_rfl
@[go_sem] theorem ta20_148_119 (v : Value) (w : World) : (Instr.typeAssert (.iface 148 v) 20 119 true).run Tryz.prog w = .ok (.tuple #[.string ByteArray.empty, .bool false]) w := by kernel_rfl
@[go_sem] theorem ta20_nil_119 (w : World) : (Instr.typeAssert .nilIface 20 119 true).run Tryz.prog w = .ok (.tuple #[.string ByteArray.empty, .bool false]) w := by kernel_rfl
@[go_sem] theorem ta20_4_147 (v : Value) (w : World) : (Instr.typeAssert (.iface 4 v) 20 147 true).run Tryz.prog w = .ok (.tuple #[.slice none 0 0, .bool false]) w := by kernel_rfl
@[go_sem] theorem ta20_9_147 (v : Value) (w : World) : (Instr.typeAssert (.iface 9 v) 20 147 true).run Tryz.prog w = .ok (.tuple #[.slice none 0 0, .bool false]) w := by kernel_rfl
@[go_sem] theorem ta20_119_147 (v : Value) (w : World) : (Instr.typeAssert (.iface 119 v) 20 147 true).run Tryz.prog w = .ok (.tuple #[.slice none 0 0, .bool false]) w := by kernel_rfl
@[go_sem] theorem ta20_147_147 (v : Value) (w : World) : (Instr.typeAssert (.iface 147 v) 20 147 true).run Tryz.prog w = .ok (.tuple #[v, .bool true]) w := by kernel_rfl
@[go_sem] theorem tb20_147_147 (v : Value) (w : World) : (Instr.typeAssert (.iface 147 v) 20 147 false).run Tryz.prog w = .ok v w := by kernel_rfl
@[go_sem] theorem ta20_148_147 (v : Value) (w : World) : (Instr.typeAssert (.iface 148 v) 20 147 true).run Tryz.prog w = .ok (.tuple #[.slice none 0 0, .bool false]) w := by kernel_rfl
@[go_sem] theorem ta20_nil_147 (w : World) : (Instr.typeAssert .nilIface 20 147 true).run Tryz.prog w = .ok (.tuple #[.slice none 0 0, .bool false]) w := by kernel_rfl
@[go_sem] theorem ta20_4_148 (v : Value) (w : World) : (Instr.typeAssert (.iface 4 v) 20 148 true).run Tryz.prog w = .ok (.tuple #[.map none, .bool false]) w := by kernel_rfl
@[go_sem] theorem ta20_9_148 (v : Value) (w : World) : (Instr.typeAssert (.iface 9 v) 20 148 true).run Tryz.prog w = .ok (.tuple #[.map none, .bool false]) w := by kernel_rfl
@[go_sem] theorem ta20_119_148 (v : Value) (w : World) : (Instr.typeAssert (.iface 119 v) 20 148 true).run Tryz.prog w = .ok (.tuple #[.map none, .bool false]) w := by kernel_rfl
@[go_sem] theorem ta20_147_148 (v : Value) (w : World) : (Instr.typeAssert (.iface 147 v) 20 148 true).run Tryz.prog w = .ok (.tuple #[.map none, .bool false]) w := by kernel_rfl
@[go_sem] theorem ta20_148_148 (v : Value) (w : World) : (Instr.typeAssert (.iface 148 v) 20 148 true).run Tryz.prog w = .ok (.tuple #[v, .bool true]) w := by kernel_rfl
@[go_sem] theorem tb20_148_148 (v : Value) (w : World) : (Instr.typeAssert (.iface 148 v) 20 148 false).run Tryz.prog w = .ok v w := by kernel_rfl
@[go_sem] theorem ta20_nil_148 (w : World) : (Instr.typeAssert .nilIface 20 148 true).run Tryz.prog w = .ok (.tuple #[.map none, .bool false]) w := by kernel_rfl
@[go_sem] theorem ta20_4_159 (v : Value) (w : World) : (Instr.typeAssert (.iface 4 v) 20 159 true).run Tryz.prog w = .ok (.tuple #[.map none, .bool false]) w := by kernel_rfl
@[go_sem] theorem ta20_9_159 (v : Value) (w : World) : (Instr.typeAssert (.iface 9 v) 20 159 true).run Tryz.prog w = .ok (.tuple #[.map none, .bool false]) w := by kernel_rfl
@[go_sem] theorem ta20_119_159 (v : Value) (w : World) : (Instr.typeAssert (.iface 119 v) 20 159 true).run Tryz.prog w = .ok (.tuple #[.map none, .bool false]) w := by kernel_rfl
@[go_sem] theorem ta20_147_159 (v : Value) (w : World) : (Instr.typeAssert (.iface 147 v) 20 159 true).run Tryz.prog w = .ok (.tuple #[.map none, .bool false]) w := by kernel_rfl
@[go_sem] theorem ta20_148_159 (v : Value) (w : World) : (Instr.typeAssert (.iface 148 v) 20 159 true).run Tryz.prog w = .ok (.tuple #[.map none, .bool false]) w := by kernel_rfl
@[go_sem] theorem ta20_nil_159 (w : World) : (Instr.typeAssert .nilIface 20 159 true).run Tryz.prog w = .ok (.tuple #[.map none, .bool false]) w := by kernel_rfl
@[go_sem] theorem ta74_80_80 (v : Value) (w : World) : (Instr.typeAssert (.iface 80 v) 74 80 true).run Tryz.prog w = .ok (.tuple #[v, .bool true]) w := by kernel_rfl
@[go_sem] theorem tb74_80_80 (v : Value) (w : World) : (Instr.typeAssert (.iface 80 v) 74 80 false).run Tryz.prog w = .ok v w := by kernel_rfl
@[go_sem] theorem ta74_90_80 (v : Value) (w : World) : (Instr.typeAssert (.iface 90 v) 74 80 true).run Tryz.prog w = .ok (.tuple #[.pointer none, .bool false]) w := by kernel_rfl
@[go_sem] theorem ta74_91_80 (v : Value) (w : World) : (Instr.typeAssert (.iface 91 v) 74 80 true).run Tryz.prog w = .ok (.tuple #[.pointer none, .bool false]) w := by kernel_rfl
@[go_sem] theorem ta74_92_80 (v : Value) (w : World) : (Instr.typeAssert (.iface 92 v) 74 80 true).run Tryz.prog w = .ok (.tuple #[.pointer none, .bool false]) w := by kernel_rfl
@[go_sem] theorem ta74_93_80 (v : Value) (w : World) : (Instr.typeAssert (.iface 93 v) 74 80 true).run Tryz.prog w = .ok (.tuple #[.pointer none, .bool false]) w := by kernel_rfl
@[go_sem] theorem ta74_94_80 (v : Value) (w : World) : (Instr.typeAssert (.iface 94 v) 74 80 true).run Tryz.prog w = .ok (.tuple #[.pointer none, .bool false]) w := by kernel_rfl
@[go_sem] theorem ta74_108_80 (v : Value) (w : World) : (Instr.typeAssert (.iface 108 v) 74 80 true).run Tryz.prog w = .ok (.tuple #[.pointer none, .bool false]) w := by kernel_rfl
@[go_sem] theorem ta74_110_80 (v : Value) (w : World) : (Instr.typeAssert (.iface 110 v) 74 80 true).run Tryz.prog w = .ok (.tuple #[.pointer none, .bool false]) w := by kernel_rfl
@[go_sem] theorem ta74_nil_80 (w : World) : (Instr.typeAssert .nilIface 74 80 true).run Tryz.prog w = .ok (.tuple #[.pointer none, .bool false]) w := by kernel_rfl
@[go_sem] theorem ta74_80_90 (v : Value) (w : World) : (Instr.typeAssert (.iface 80 v) 74 90 true).run Tryz.prog w = .ok (.tuple #[.agg #[], .bool false]) w := by kernel_rfl
@[go_sem] theorem ta74_90_90 (v : Value) (w : World) : (Instr.typeAssert (.iface 90 v) 74 90 true).run Tryz.prog w = .ok (.tuple #[v, .bool true]) w := by kernel_rfl
@[go_sem] theorem tb74_90_90 (v : Value) (w : World) : (Instr.typeAssert (.iface 90 v) 74 90 false).run Tryz.prog w = .ok v w := by kernel_rfl
@[go_sem] theorem ta74_91_90 (v : Value) (w : World) : (Instr.typeAssert (.iface 91 v) 74 90 true).run Tryz.prog w = .ok (.tuple #[.agg #[], .bool false]) w := by kernel_rfl
@[go_sem] theorem ta74_92_90 (v : Value) (w : World) : (Instr.typeAssert (.iface 92 v) 74 90 true).run Tryz.prog w = .ok (.tuple #[.agg #[], .bool false]) w := by kernel_rfl
@[go_sem] theorem ta74_93_90 (v : Value) (w : World) : (Instr.typeAssert (.iface 93 v) 74 90 true).run Tryz.prog w = .ok (.tuple #[.agg #[], .bool false]) w := by kernel_rfl
@[go_sem] theorem ta74_94_90 (v : Value) (w : World) : (Instr.typeAssert (.iface 94 v) 74 90 true).run Tryz.prog w = .ok (.tuple #[.agg #[], .bool false]) w := by kernel_rfl
@[go_sem] theorem ta74_108_90 (v : Value) (w : World) : (Instr.typeAssert (.iface 108 v) 74 90 true).run Tryz.prog w = .ok (.tuple #[.agg #[], .bool false]) w := by kernel_rfl
@[go_sem] theorem ta74_110_90 (v : Value) (w : World) : (Instr.typeAssert (.iface 110 v) 74 90 true).run Tryz.prog w = .ok (.tuple #[.agg #[], .bool false]) w := by kernel_rfl
@[go_sem] theorem ta74_nil_90 (w : World) : (Instr.typeAssert .nilIface 74 90 true).run Tryz.prog w = .ok (.tuple #[.agg #[], .bool false]) w := by kernel_rfl
@[go_sem] theorem ta74_80_91 (v : Value) (w : World) : (Instr.typeAssert (.iface 80 v) 74 91 true).run Tryz.prog w = .ok (.tuple #[.agg #[], .bool false]) w := by kernel_rfl
@[go_sem] theorem ta74_90_91 (v : Value) (w : World) : (Instr.typeAssert (.iface 90 v) 74 91 true).run Tryz.prog w = .ok (.tuple #[.agg #[], .bool false]) w := by kernel_rfl
@[go_sem] theorem ta74_91_91 (v : Value) (w : World) : (Instr.typeAssert (.iface 91 v) 74 91 true).run Tryz.prog w = .ok (.tuple #[v, .bool true]) w := by kernel_rfl
@[go_sem] theorem tb74_91_91 (v : Value) (w : World) : (Instr.typeAssert (.iface 91 v) 74 91 false).run Tryz.prog w = .ok v w := by kernel_rfl
@[go_sem] theorem ta74_92_91 (v : Value) (w : World) : (Instr.typeAssert (.iface 92 v) 74 91 true).run Tryz.prog w = .ok (.tuple #[.agg #[], .bool false]) w := by kernel_rfl
@[go_sem] theorem ta74_93_91 (v : Value) (w : World) : (Instr.typeAssert (.iface 93 v) 74 91 true).run Tryz.prog w = .ok (.tuple #[.agg #[], .bool false]) w := by kernel_rfl
@[go_sem] theorem ta74_94_91 (v : Value) (w : World) : (Instr.typeAssert (.iface 94 v) 74 91 true).run Tryz.prog w = .ok (.tuple #[.agg #[], .bool false]) w := by kernel_rfl
@[go_sem] theorem ta74_108_91 (v : Value) (w : World) : (Instr.typeAssert (.iface 108 v) 74 91 true).run Tryz.prog w = .ok (.tuple #[.agg #[], .bool false]) w := by kernel_rfl
@[go_sem] theorem ta74_110_91 (v : Value) (w : World) : (Instr.typeAssert (.iface 110 v) 74 91 true).run Tryz.prog w = .ok (.tuple #[.agg #[], .bool false]) w := by kernel_rfl
@[go_sem] theorem ta74_nil_91 (w : World) : (Instr.typeAssert .nilIface 74 91 true).run Tryz.prog w = .ok (.tuple #[.agg #[], .bool false]) w := by kernel_rfl
@[go_sem] theorem ta74_80_92 (v : Value) (w : World) : (Instr.typeAssert (.iface 80 v) 74 92 true).run Tryz.prog w = .ok (.tuple #[.agg #[], .bool false]) w := by kernel_rfl
@[go_sem] theorem ta74_90_92 (v : Value) (w : World) : (Instr.typeAssert (.iface 90 v) 74 92 true).run Tryz.prog w = .ok (.tuple #[.agg #[], .bool false]) w := by kernel_rfl
@[go_sem] theorem ta74_91_92 (v : Value) (w : World) : (Instr.typeAssert (.iface 91 v) 74 92 true).run Tryz.prog w = .ok (.tuple #[.agg #[], .bool false]) w := by kernel_rfl
@[go_sem] theorem ta74_92_92 (v : Value) (w : World) : (Instr.typeAssert (.iface 92 v) 74 92 true).run Tryz.prog w = .ok (.tuple #[v, .bool true]) w := by kernel_rfl
@[go_sem] theorem tb74_92_92 (v : Value) (w : World) : (Instr.typeAssert (.iface 92 v) 74 92 false).run Tryz.prog w = .ok v w := by kernel_rfl
@[go_sem] theorem ta74_93_92 (v : Value) (w : World) : (Instr.typeAssert (.iface 93 v) 74 92 true).run Tryz.prog w = .ok (.tuple #[.agg #[], .bool false]) w := by kernel_rfl
@[go_sem] theorem ta74_94_92 (v : Value) (w : World) : (Instr.typeAssert (.iface 94 v) 74 92 true).run Tryz.prog w = .ok (.tuple #[.agg #[], .bool false]) w := by kernel_rfl
@[go_sem] theorem ta74_108_92 (v : Value) (w : World) : (Instr.typeAssert (.iface 108 v) 74 92 true).run Tryz.prog w = .ok (.tuple #[.agg #[], .bool false]) w := by kernel_rfl
@[go_sem] theorem ta74_110_92 (v : Value) (w : World) : (Instr.typeAssert (.iface 110 v) 74 92 true).run Tryz.prog w = .ok (.tuple #[.agg #[], .bool false]) w := by kernel_rfl
@[go_sem] theorem ta74_nil_92 (w : World) : (Instr.typeAssert .nilIface 74 92 true).run Tryz.prog w = .ok (.tuple #[.agg #[], .bool false]) w := by kernel_rfl
@[go_sem] theorem ta74_80_93 (v : Value) (w : World) : (Instr.typeAssert (.iface 80 v) 74 93 true).run Tryz.prog w = .ok (.tuple #[.agg #[], .bool false]) w := by kernel_rfl
@[go_sem] theorem ta74_90_93 (v : Value) (w : World) : (Instr.typeAssert (.iface 90 v) 74 93 true).run Tryz.prog w = .ok (.tuple #[.agg #[], .bool false]) w := by kernel_rfl
@[go_sem] theorem ta74_91_93 (v : Value) (w : World) : (Instr.typeAssert (.iface 91 v) 74 93 true).run Tryz.prog w = .ok (.tuple #[.agg #[], .bool false]) w := by kernel_rfl
@[go_sem] theorem ta74_92_93 (v : Value) (w : World) : (Instr.typeAssert (.iface 92 v) 74 93 true).run Tryz.prog w = .ok (.tuple #[.agg #[], .bool false]) w := by kernel_rfl
@[go_sem] theorem ta74_93_93 (v : Value) (w : World) : (Instr.typeAssert (.iface 93 v) 74 93 true).run Tryz.prog w = .ok (.tuple #[v, .bool true]) w := by kernel_rfl
@[go_sem] theorem tb74_93_93 (v : Value) (w : World) : (Instr.typeAssert (.iface 93 v) 74 93 false).run Tryz.prog w = .ok v w := by kernel_rfl
@[go_sem] theorem ta74_94_93 (v : Value) (w : World) : (Instr.typeAssert (.iface 94 v) 74 93 true).run Tryz.prog w = .ok (.tuple #[.agg #[], .bool false]) w := by kernel_rfl
@[go_sem] theorem ta74_108_93 (v : Value) (w : World) : (Instr.typeAssert (.iface 108 v) 74 93 true).run Tryz.prog w = .ok (.tuple #[.agg #[], .bool false]) w := by kernel_rfl
@[go_sem] theorem ta74_110_93 (v : Value) (w : World) : (Instr.typeAssert (.iface 110 v) 74 93 true).run Tryz.prog w = .ok (.tuple #[.agg #[], .bool false]) w := by kernel_rfl
@[go_sem] theorem ta74_nil_93 (w : World) : (Instr.typeAssert .nilIface 74 93 true).run Tryz.prog w = .ok (.tuple #[.agg #[], .bool false]) w := by kernel_rfl
@[go_sem] theorem ta74_80_94 (v : Value) (w : World) : (Instr.typeAssert (.iface 80 v) 74 94 true).run Tryz.prog w = .ok (.tuple #[.pointer none, .bool false]) w := by kernel_rfl
@[go_sem] theorem ta74_90_94 (v : Value) (w : World) : (Instr.typeAssert (.iface 90 v) 74 94 true).run Tryz.prog w = .ok (.tuple #[.pointer none, .bool false]) w := by kernel_rfl
@[go_sem] theorem ta74_91_94 (v : Value) (w : World) : (Instr.typeAssert (.iface 91 v) 74 94 true).run Tryz.prog w = .ok (.tuple #[.pointer none, .bool false]) w := by kernel_rfl
@[go_sem] theorem ta74_92_94 (v : Value) (w : World) : (Instr.typeAssert (.iface 92 v) 74 94 true).run Tryz.prog w = .ok (.tuple #[.pointer none, .bool false]) w := by kernel_rfl
@[go_sem] theorem ta74_93_94 (v : Value) (w : World) : (Instr.typeAssert (.iface 93 v) 74 94 true).run Tryz.prog w = .ok (.tuple #[.pointer none, .bool false]) w := by kernel_rfl
@[go_sem] theorem ta74_94_94 (v : Value) (w : World) : (Instr.typeAssert (.iface 94 v) 74 94 true).run Tryz.prog w = .ok (.tuple #[v, .bool true]) w := by kernel_rfl
@[go_sem] theorem tb74_94_94 (v : Value) (w : World) : (Instr.typeAssert (.iface 94 v) 74 94 false).run Tryz.prog w = .ok v w := by kernel_rfl
@[go_sem] theorem ta74_108_94 (v : Value) (w : World) : (Instr.typeAssert (.iface 108 v) 74 94 true).run Tryz.prog w = .ok (.tuple #[.pointer none, .bool false]) w := by kernel_rfl
@[go_sem] theorem ta74_110_94 (v : Value) (w : World) : (Instr.typeAssert (.iface 110 v) 74 94 true).run Tryz.prog w = .ok (.tuple #[.pointer none, .bool false]) w := by kernel_rfl
@[go_sem] theorem ta74_nil_94 (w : World) : (Instr.typeAssert .nilIface 74 94 true).run Tryz.prog w = .ok (.tuple #[.pointer none, .bool false]) w := by kernel_rfl
@[go_sem] theorem ta74_80_108 (v : Value) (w : World) : (Instr.typeAssert (.iface 80 v) 74 108 true).run Tryz.prog w = .ok (.tuple #[.pointer none, .bool false]) w := by kernel_rfl
@[go_sem] theorem ta74_90_108 (v : Value) (w : World) : (Instr.typeAssert (.iface 90 v) 74 108 true).run Tryz.prog w = .ok (.tuple #[.pointer none, .bool false]) w := by kernel_rfl
@[go_sem] theorem ta74_91_108 (v : Value) (w : World) : (Instr.typeAssert (.iface 91 v) 74 108 true).run Tryz.prog w = .ok (.tuple #[.pointer none, .bool false]) w := by kernel_rfl
@[go_sem] theorem ta74_92_108 (v : Value) (w : World) : (Instr.typeAssert (.iface 92 v) 74 108 true).run Tryz.prog w = .ok (.tuple #[.pointer none, .bool false]) w := by kernel_rfl
@[go_sem] theorem ta74_93_108 (v : Value) (w : World) : (Instr.typeAssert (.iface 93 v) 74 108 true).run Tryz.prog w = .ok (.tuple #[.pointer none, .bool false]) w := by kernel_rfl
@[go_sem] theorem ta74_94_108 (v : Value) (w : World) : (Instr.typeAssert (.iface 94 v) 74 108 true).run Tryz.prog w = .ok (.tuple #[.pointer none, .bool false]) w := by kernel_rfl
@[go_sem] theorem ta74_108_108 (v : Value) (w : World) : (Instr.typeAssert (.iface 108 v) 74 108 true).run Tryz.prog w = .ok (.tuple #[v, .bool true]) w := by kernel_rfl
@[go_sem] theorem tb74_108_108 (v : Value) (w : World) : (Instr.typeAssert (.iface 108 v) 74 108 false).run Tryz.prog w = .ok v w := by kernel_rfl
@[go_sem] theorem ta74_110_108 (v : Value) (w : World) : (Instr.typeAssert (.iface 110 v) 74 108 true).run Tryz.prog w = .ok (.tuple #[.pointer none, .bool false]) w := by kernel_rfl
@[go_sem] theorem ta74_nil_108 (w : World) : (Instr.typeAssert .nilIface 74 108 true).run Tryz.prog w = .ok (.tuple #[.pointer none, .bool false]) w := by kernel_rfl
@[go_sem] theorem ta74_80_110 (v : Value) (w : World) : (Instr.typeAssert (.iface 80 v) 74 110 true).run Tryz.prog w = .ok (.tuple #[.slice none 0 0, .bool false]) w := by kernel_rfl
@[go_sem] theorem ta74_90_110 (v : Value) (w : World) : (Instr.typeAssert (.iface 90 v) 74 110 true).run Tryz.prog w = .ok (.tuple #[.slice none 0 0, .bool false]) w := by kernel_rfl
@[go_sem] theorem ta74_91_110 (v : Value) (w : World) : (Instr.typeAssert (.iface 91 v) 74 110 true).run Tryz.prog w = .ok (.tuple #[.slice none 0 0, .bool false]) w := by kernel_rfl
@[go_sem] theorem ta74_92_110 (v : Value) (w : World) : (Instr.typeAssert (.iface 92 v) 74 110 true).run Tryz.prog w = .ok (.tuple #[.slice none 0 0, .bool false]) w := by kernel_rfl
@[go_sem] theorem ta74_93_110 (v : Value) (w : World) : (Instr.typeAssert (.iface 93 v) 74 110 true).run Tryz.prog w = .ok (.tuple #[.slice none 0 0, .bool false]) w := by kernel_rfl
@[go_sem] theorem ta74_94_110 (v : Value) (w : World) : (Instr.typeAssert (.iface 94 v) 74 110 true).run Tryz.prog w = .ok (.tuple #[.slice none 0 0, .bool false]) w := by kernel_rfl
@[go_sem] theorem ta74_108_110 (v : Value) (w : World) : (Instr.typeAssert (.iface 108 v) 74 110 true).run Tryz.prog w = .ok (.tuple #[.slice none 0 0, .bool false]) w := by kernel_rfl
@[go_sem] theorem ta74_110_110 (v : Value) (w : World) : (Instr.typeAssert (.iface 110 v) 74 110 true).run Tryz.prog w = .ok (.tuple #[v, .bool true]) w := by kernel_rfl
@[go_sem] theorem tb74_110_110 (v : Value) (w : World) : (Instr.typeAssert (.iface 110 v) 74 110 false).run Tryz.prog w = .ok v w := by kernel_rfl
@[go_sem] theorem ta74_nil_110 (w : World) : (Instr.typeAssert .nilIface 74 110 true).run Tryz.prog w = .ok (.tuple #[.slice none 0 0, .bool false]) w := by kernel_rfl
@[go_sem] theorem ta74_80_112 (v : Value) (w : World) : (Instr.typeAssert (.iface 80 v) 74 112 true).run Tryz.prog w = .ok (.tuple #[.pointer none, .bool false]) w := by kernel_rfl
@[go_sem] theorem ta74_90_112 (v : Value) (w : World) : (Instr.typeAssert (.iface 90 v) 74 112 true).run Tryz.prog w = .ok (.tuple #[.pointer none, .bool false]) w := by kernel_rfl
@[go_sem] theorem ta74_91_112 (v : Value) (w : World) : (Instr.typeAssert (.iface 91 v) 74 112 true).run Tryz.prog w = .ok (.tuple #[.pointer none, .bool false]) w := by kernel_rfl
@[go_sem] theorem ta74_92_112 (v : Value) (w : World) : (Instr.typeAssert (.iface 92 v) 74 112 true).run Tryz.prog w = .ok (.tuple #[.pointer none, .bool false]) w := by kernel_rfl
@[go_sem] theorem ta74_93_112 (v : Value) (w : World) : (Instr.typeAssert (.iface 93 v) 74 112 true).run Tryz.prog w = .ok (.tuple #[.pointer none, .bool false]) w := by kernel_rfl
@[go_sem] theorem ta74_94_112 (v : Value) (w : World) : (Instr.typeAssert (.iface 94 v) 74 112 true).run Tryz.prog w = .ok (.tuple #[.pointer none, .bool false]) w := by kernel_rfl
@[go_sem] theorem ta74_108_112 (v : Value) (w : World) : (Instr.typeAssert (.iface 108 v) 74 112 true).run Tryz.prog w = .ok (.tuple #[.pointer none, .bool false]) w := by kernel_rfl
@[go_sem] theorem ta74_110_112 (v : Value) (w : World) : (Instr.typeAssert (.iface 110 v) 74 112 true).run Tryz.prog w = .ok (.tuple #[.pointer none, .bool false]) w := by kernel_rfl
@[go_sem] theorem ta74_nil_112 (w : World) : (Instr.typeAssert .nilIface 74 112 true).run Tryz.prog w = .ok (.tuple #[.pointer none, .bool false]) w := by kernel_rfl
@[go_sem] theorem ta74_80_116 (v : Value) (w : World) : (Instr.typeAssert (.iface 80 v) 74 116 true).run Tryz.prog w = .ok (.tuple #[.pointer none, .bool false]) w := by kernel_rfl
@[go_sem] theorem ta74_90_116 (v : Value) (w : World) : (Instr.typeAssert (.iface 90 v) 74 116 true).run Tryz.prog w = .ok (.tuple #[.pointer none, .bool false]) w := by kernel_rfl
@[go_sem] theorem ta74_91_116 (v : Value) (w : World) : (Instr.typeAssert (.iface 91 v) 74 116 true).run Tryz.prog w = .ok (.tuple #[.pointer none, .bool false]) w := by kernel_rfl
@[go_sem] theorem ta74_92_116 (v : Value) (w : World) : (Instr.typeAssert (.iface 92 v) 74 116 true).run Tryz.prog w = .ok (.tuple #[.pointer none, .bool false]) w := by kernel_rfl
@[go_sem] theorem ta74_93_116 (v : Value) (w : World) : (Instr.typeAssert (.iface 93 v) 74 116 true).run Tryz.prog w = .ok (.tuple #[.pointer none, .bool false]) w := by kernel_rfl
@[go_sem] theorem ta74_94_116 (v : Value) (w : World) : (Instr.typeAssert (.iface 94 v) 74 116 true).run Tryz.prog w = .ok (.tuple #[.pointer none, .bool false]) w := by kernel_rfl
@[go_sem] theorem ta74_108_116 (v : Value) (w : World) : (Instr.typeAssert (.iface 108 v) 74 116 true).run Tryz.prog w = .ok (.tuple #[.pointer none, .bool false]) w := by kernel_rfl
@[go_sem] theorem ta74_110_116 (v : Value) (w : World) : (Instr.typeAssert (.iface 110 v) 74 116 true).run Tryz.prog w = .ok (.tuple #[.pointer none, .bool false]) w := by kernel_rfl
@[go_sem] theorem ta74_nil_116 (w : World) : (Instr.typeAssert .nilIface 74 116 true).run Tryz.prog w = .ok (.tuple #[.pointer none, .bool false]) w := by kernel_rfl
@[go_sem] theorem ta74_80_163 (v : Value) (w : World) : (Instr.typeAssert (.iface 80 v) 74 163 true).run Tryz.prog w = .ok (.tuple #[.pointer none, .bool false]) w := by kernel_rfl
@[go_sem] theorem ta74_90_163 (v : Value) (w : World) : (Instr.typeAssert (.iface 90 v) 74 163 true).run Tryz.prog w = .ok (.tuple #[.pointer none, .bool false]) w := by kernel_rfl
@[go_sem] theorem ta74_91_163 (v : Value) (w : World) : (Instr.typeAssert (.iface 91 v) 74 163 true).run Tryz.prog w = .ok (.tuple #[.pointer none, .bool false]) w := by kernel_rfl
@[go_sem] theorem ta74_92_163 (v : Value) (w : World) : (Instr.typeAssert (.iface 92 v) 74 163 true).run Tryz.prog w = .ok (.tuple #[.pointer none, .bool false]) w := by kernel_rfl
@[go_sem] theorem ta74_93_163 (v : Value) (w : World) : (Instr.typeAssert (.iface 93 v) 74 163 true).run Tryz.prog w = .ok (.tuple #[.pointer none, .bool false]) w := by kernel_rfl
@[go_sem] theorem ta74_94_163 (v : Value) (w : World) : (Instr.typeAssert (.iface 94 v) 74 163 true).run Tryz.prog w = .ok (.tuple #[.pointer none, .bool false]) w := by kernel_rfl
@[go_sem] theorem ta74_108_163 (v : Value) (w : World) : (Instr.typeAssert (.iface 108 v) 74 163 true).run Tryz.prog w = .ok (.tuple #[.pointer none, .bool false]) w := by kernel_rfl
@[go_sem] theorem ta74_110_163 (v : Value) (w : World) : (Instr.typeAssert (.iface 110 v) 74 163 true).run Tryz.prog w = .ok (.tuple #[.pointer none, .bool false]) w := by kernel_rfl
@[go_sem] theorem ta74_nil_163 (w : World) : (Instr.typeAssert .nilIface 74 163 true).run Tryz.prog w = .ok (.tuple #[.pointer none, .bool false]) w := by kernel_rfl
@[go_sem] theorem mkI4 (x : Value) (w : World) : (Instr.makeInterface 4 x).run Tryz.prog w = .ok (.iface 4 x) w := run_makeInterface w 4 x (by kernel_rfl)
@[go_sem] theorem mkI9 (x : Value) (w : World) : (Instr.makeInterface 9 x).run Tryz.prog w = .ok (.iface 9 x) w := run_makeInterface w 9 x (by kernel_rfl)
@[go_sem] theorem mkI80 (x : Value) (w : World) : (Instr.makeInterface 80 x).run Tryz.prog w = .ok (.iface 80 x) w := run_makeInterface w 80 x (by kernel_rfl)
@[go_sem] theorem mkI90 (x : Value) (w : World) : (Instr.makeInterface 90 x).run Tryz.prog w = .ok (.iface 90 x) w := run_makeInterface w 90 x (by kernel_rfl)
@[go_sem] theorem mkI91 (x : Value) (w : World) : (Instr.makeInterface 91 x).run Tryz.prog w = .ok (.iface 91 x) w := run_makeInterface w 91 x (by kernel_rfl)
@[go_sem] theorem mkI92 (x : Value) (w : World) : (Instr.makeInterface 92 x).run Tryz.prog w = .ok (.iface 92 x) w := run_makeInterface w 92 x (by kernel_rfl)
@[go_sem] theorem mkI93 (x : Value) (w : World) : (Instr.makeInterface 93 x).run Tryz.prog w = .ok (.iface 93 x) w := run_makeInterface w 93 x (by kernel_rfl)
@[go_sem] theorem mkI94 (x : Value) (w : World) : (Instr.makeInterface 94 x).run Tryz.prog w = .ok (.iface 94 x) w := run_makeInterface w 94 x (by kernel_rfl)
@[go_sem] theorem mkI108 (x : Value) (w : World) : (Instr.makeInterface 108 x).run Tryz.prog w = .ok (.iface 108 x) w := run_makeInterface w 108 x (by kernel_rfl)
@[go_sem] theorem mkI110 (x : Value) (w : World) : (Instr.makeInterface 110 x).run Tryz.prog w = .ok (.iface 110 x) w := run_makeInterface w 110 x (by kernel_rfl)
@[go_sem] theorem mkI112 (x : Value) (w : World) : (Instr.makeInterface 112 x).run Tryz.prog w = .ok (.iface 112 x) w := run_makeInterface w 112 x (by kernel_rfl)
@[go_sem] theorem mkI116 (x : Value) (w : World) : (Instr.makeInterface 116 x).run Tryz.prog w = .ok (.iface 116 x) w := run_makeInterface w 116 x (by kernel_rfl)
@[go_sem] theorem mkI119 (x : Value) (w : World) : (Instr.makeInterface 119 x).run Tryz.prog w = .ok (.iface 119 x) w := run_makeInterface w 119 x (by kernel_rfl)
@[go_sem] theorem mkI147 (x : Value) (w : World) : (Instr.makeInterface 147 x).run Tryz.prog w = .ok (.iface 147 x) w := run_makeInterface w 147 x (by kernel_rfl)
@[go_sem] theorem mkI148 (x : Value) (w : World) : (Instr.makeInterface 148 x).run Tryz.prog w = .ok (.iface 148 x) w := run_makeInterface w 148 x (by kernel_rfl)
@[go_sem] theorem mkI183 (x : Value) (w : World) : (Instr.makeInterface 183 x).run Tryz.prog w = .ok (.iface 183 x) w := run_makeInterface w 183 x (by kernel_rfl)
/-- Which operations have come up, as the bits of a number. -/
def lb (n k : Nat) : Array Bool := ((List.range n).map fun i => k.testBit i).toArray
theorem nrA {α : Type} {l : List α} {i : Nat} {a : α} : l.toArray.setIfInBounds i a = (l.set i a).toArray := by rw [List.setIfInBounds_toArray]
theorem nrB {α : Type} {x a : α} {xs : List α} : (x :: xs).set 0 a = a :: xs := rfl
theorem nrC {α : Type} {x a : α} {xs : List α} {n : Nat} : (x :: xs).set (n + 1) a = x :: xs.set n a := rfl
end Go.Proofs.YtaglgokeejjagaaGreat
