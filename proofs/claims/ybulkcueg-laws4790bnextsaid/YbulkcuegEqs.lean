import Derived.Test.YbulkcuegRows
import Derived.WalkKit
import Derived.WalkSpells
import Derived.WalkLawsBesides
import Derived.LaidEql
namespace Go.Proofs.Ybulkcueg
open Go.RowKit

theorem equalIn_held (d : Nat) (u : TypeId) (i : TypeInfo) (x y : Value) (w : World) (ms : Array (String × TypeId)) (h73 : Yba.prog.underlying 73 = some (.interface ms)) (hi : Yba.prog.info? u = some i) (hc : i.comparable = true) :
    (Op.equalIn (d + 1) 73 (.iface u x) (.iface u y)).run Yba.prog w = (Op.equalIn d u x y).run Yba.prog w := by
  simp [Op.equalIn, run_underlying h73, typeInfo, hi, hc]

theorem held_eql (u : TypeId) (i : TypeInfo) (x y : Value) (w : World) (ms : Array (String × TypeId)) (h73 : Yba.prog.underlying 73 = some (.interface ms)) (hi : Yba.prog.info? u = some i) (hc : i.comparable = true) (h : (Op.equalIn 9999 u x y).run Yba.prog w = .ok true w) :
    (binOp .eql 73 (.iface u x) (.iface u y)).run Yba.prog w = .ok (.bool true) w := by
  simp only [binOp]
  simp [Op.equal, Op.maxDepth, equalIn_held 9999 u i x y w ms h73 hi hc, h]

theorem info_of (u : TypeId) (h : (Yba.prog.info? u).map (·.comparable) = some true) : ∃ i, Yba.prog.info? u = some i ∧ i.comparable = true := by
  obtain ⟨i, hi, hc⟩ := Option.map_eq_some_iff.1 h
  exact ⟨i, hi, hc⟩

set_option maxRecDepth 100000
theorem eq67 (s : ByteArray) (a r z e c : Int) (o k : Bool) (w : World) : (binOp .eql 67 (.agg #[.string s, .int .u16 a, .int .u8 r, .int .u8 z, .int .i64 e, .bool o, .int .u32 c, .bool k]) (.agg #[.string s, .int .u16 a, .int .u8 r, .int .u8 z, .int .i64 e, .bool o, .int .u32 c, .bool k])).run Yba.prog w = .ok (.bool true) w := by
  simp [go_sem]
theorem eq73t (s : ByteArray) (a r z e c : Int) (o k : Bool) (w : World) : (binOp .eql 73 (.iface 67 (.agg #[.string s, .int .u16 a, .int .u8 r, .int .u8 z, .int .i64 e, .bool o, .int .u32 c, .bool k])) (.iface 67 (.agg #[.string s, .int .u16 a, .int .u8 r, .int .u8 z, .int .i64 e, .bool o, .int .u32 c, .bool k]))).run Yba.prog w = .ok (.bool true) w := by
  obtain ⟨i, hi, hc⟩ := info_of 67 (by kernel_rfl)
  exact held_eql 67 i _ _ w _ Yba.underlying73 hi hc (by simp [go_sem])
theorem eq51 (s : ByteArray) (a r z e : Int) (w : World) : (binOp .eql 51 (.agg #[.string s, .int .u16 a, .int .u8 r, .int .u8 z, .int .i64 e]) (.agg #[.string s, .int .u16 a, .int .u8 r, .int .u8 z, .int .i64 e])).run Yba.prog w = .ok (.bool true) w := by
  simp [go_sem]
theorem eq73l (s : ByteArray) (a r z e : Int) (w : World) : (binOp .eql 73 (.iface 51 (.agg #[.string s, .int .u16 a, .int .u8 r, .int .u8 z, .int .i64 e])) (.iface 51 (.agg #[.string s, .int .u16 a, .int .u8 r, .int .u8 z, .int .i64 e]))).run Yba.prog w = .ok (.bool true) w := by
  obtain ⟨i, hi, hc⟩ := info_of 51 (by kernel_rfl)
  exact held_eql 51 i _ _ w _ Yba.underlying73 hi hc (by simp [go_sem])
theorem eq73a (r z e : Int) (w : World) : (binOp .eql 73 (.iface 76 (.agg #[.int .u8 r, .int .u8 z, .int .i64 e])) (.iface 76 (.agg #[.int .u8 r, .int .u8 z, .int .i64 e]))).run Yba.prog w = .ok (.bool true) w := by
  obtain ⟨i, hi, hc⟩ := info_of 76 (by kernel_rfl)
  exact held_eql 76 i _ _ w _ Yba.underlying73 hi hc (by simp [go_sem])
theorem eq73n (r z e : Int) (w : World) : (binOp .eql 73 (.iface 77 (.agg #[.int .u8 r, .int .u8 z, .int .i64 e])) (.iface 77 (.agg #[.int .u8 r, .int .u8 z, .int .i64 e]))).run Yba.prog w = .ok (.bool true) w := by
  obtain ⟨i, hi, hc⟩ := info_of 77 (by kernel_rfl)
  exact held_eql 77 i _ _ w _ Yba.underlying73 hi hc (by simp [go_sem])
theorem eq34t (s : ByteArray) (a : Int) (w : World) : (binOp .eql 34 (.agg #[.string s, .int .u16 a]) (.agg #[.string s, .int .u16 a])).run Yba.prog w = .ok (.bool true) w := by
  simp [go_sem]
theorem eq68n (w : World) : (binOp .eql 68 (.pointer none) (.pointer none)).run Yba.prog w = .ok (.bool true) w := by kernel_rfl
theorem equalIn_ptr (d : Nat) (a : Addr) (w : World) (j : TypeInfo) (hj : Yba.prog.info? 67 = some j) : (Op.equalIn (d + 1) 68 (.pointer (some a)) (.pointer (some a))).run Yba.prog w = .ok true w := by
  simp [Op.equalIn, run_underlying Yba.underlying68, sizeOf, typeInfo, hj, run_sameAddr_same]
theorem eq68s (a : Addr) (w : World) : (binOp .eql 68 (.pointer (some a)) (.pointer (some a))).run Yba.prog w = .ok (.bool true) w := by
  obtain ⟨j, hj, _⟩ := info_of 67 (by kernel_rfl)
  simp only [binOp]
  simp [Op.equal, Op.maxDepth, equalIn_ptr 9999 a w j hj]
end Go.Proofs.Ybulkcueg
