/-
  '==' and '!=' between two pointers, and between two interface values that hold pointers, over this seat's dump: the same address; two addresses in blocks of the call's own. Stated for every world, so that a walk takes them out of the context.
-/
import Derived.Test.YbulkaiquRows
import Derived.WalkKit
import Derived.LaidEqlPtr
namespace Go.Proofs.Ybulkaiqu
open Go.RowKit
theorem hide {p : Prop} (h : p) : Hid p := h
theorem unhide {p : Prop} (h : Hid p) : p := h
end Go.Proofs.Ybulkaiqu
namespace Go.Proofs.Ybulkaiqu.Ptr
open Go.RowKit
section
variable {P : Program} (w : World)

theorem run_neq_ptr_same {tp te : TypeId} {j : TypeInfo} (a : Addr) (hp : P.underlying tp = some (.pointer te)) (hte : P.info? te = some j) :
    (binOp .neq tp (.pointer (some a)) (.pointer (some a))).run P w = .ok (.bool false) w := by
  have h : ∀ d : Nat, (Op.equalIn (d + 1) tp (.pointer (some a)) (.pointer (some a))).run P w = .ok true w := fun d => by
    simp [Op.equalIn, run_underlying hp, sizeOf, typeInfo, hte, run_sameAddr_same]
  simp only [binOp]
  simp [Op.equal, Op.maxDepth, h 9999]

theorem run_neq_ptr_other {tp te : TypeId} {j : TypeInfo} {a b : Addr} {ca cb : Array Value} {ta tb : TypeId} (hp : P.underlying tp = some (.pointer te)) (hte : P.info? te = some j) (hsz : j.size ≠ 0)
    (hne : a ≠ b) (ha : w.heap[a.block]? = some (.cells ca ta (0, 0))) (hb : w.heap[b.block]? = some (.cells cb tb (0, 0))) :
    (binOp .neq tp (.pointer (some a)) (.pointer (some b))).run P w = .ok (.bool true) w := by
  have h : ∀ d : Nat, (Op.equalIn (d + 1) tp (.pointer (some a)) (.pointer (some b))).run P w = .ok false w := fun d => by
    simp [Op.equalIn, run_underlying hp, sizeOf, typeInfo, hte, hsz, run_sameAddr_other w hne ha hb]
  simp only [binOp]
  simp [Op.equal, Op.maxDepth, h 9999]
end

theorem info_some {P : Program} {t : TypeId} {n : Nat} (h : (P.info? t).map (·.size) = some n) : ∃ j, P.info? t = some j ∧ j.size = n := by
  cases hi : P.info? t with
  | none => rw [hi] at h; cases h
  | some j => rw [hi] at h; exact ⟨j, rfl, by simpa using h⟩

theorem size93 : ((Yba.prog.info? 93).map (·.size)).isSome = true := by kernel_rfl
theorem size119 : (Yba.prog.info? 119).map (·.size) = some 8 := by kernel_rfl
theorem size87 : (Yba.prog.info? 87).map (·.size) = some 7 := by kernel_rfl
theorem size76 : (Yba.prog.info? 76).map (·.size) = some 2 := by kernel_rfl
theorem comp120 : (Yba.prog.info? 120).map (·.comparable) = some true := by kernel_rfl

/-- 's != s' at *Scheduler. -/
theorem neq24_same (a : Addr) (w : World) : (binOp .neq 24 (.pointer (some a)) (.pointer (some a))).run Yba.prog w = .ok (.bool false) w := by
  obtain ⟨n, hn⟩ := Option.isSome_iff_exists.1 size93
  obtain ⟨j, hj, _⟩ := info_some hn
  exact run_neq_ptr_same w a Yba.underlying24 hj

/-- Two interface values of *sync.Mutex at one address. -/
theorem eql82_same (a : Addr) (w : World) : (binOp .eql 82 (.iface 120 (.pointer (some a))) (.iface 120 (.pointer (some a)))).run Yba.prog w = .ok (.bool true) w := by
  obtain ⟨j, hj, _⟩ := info_some size76
  cases hi : Yba.prog.info? 120 with
  | none => have := comp120; rw [hi] at this; cases this
  | some i => exact run_eql_iface_ptr_same w a Yba.underlying82 Yba.underlying120 hi (by have := comp120; rw [hi] at this; simpa using this) hj

theorem eql82_other {a b : Addr} {ca cb : Array Value} {ta tb : TypeId} (w : World) (hne : a ≠ b) (ha : w.heap[a.block]? = some (.cells ca ta (0, 0))) (hb : w.heap[b.block]? = some (.cells cb tb (0, 0))) :
    (binOp .eql 82 (.iface 120 (.pointer (some a))) (.iface 120 (.pointer (some b)))).run Yba.prog w = .ok (.bool false) w := by
  obtain ⟨j, hj, hs⟩ := info_some size76
  cases hi : Yba.prog.info? 120 with
  | none => have := comp120; rw [hi] at this; cases this
  | some i => exact run_eql_iface_ptr_other w Yba.underlying82 Yba.underlying120 hi (by have := comp120; rw [hi] at this; simpa using this) hj (by omega) hne ha hb

theorem eql103_other {a b : Addr} {ca cb : Array Value} {ta tb : TypeId} (w : World) (hne : a ≠ b) (ha : w.heap[a.block]? = some (.cells ca ta (0, 0))) (hb : w.heap[b.block]? = some (.cells cb tb (0, 0))) :
    (binOp .eql 103 (.pointer (some a)) (.pointer (some b))).run Yba.prog w = .ok (.bool false) w := by
  obtain ⟨j, hj, hs⟩ := info_some size119
  exact run_eql_ptr_other w Yba.underlying103 hj (by omega) hne ha hb

theorem eql117_other {a b : Addr} {ca cb : Array Value} {ta tb : TypeId} (w : World) (hne : a ≠ b) (ha : w.heap[a.block]? = some (.cells ca ta (0, 0))) (hb : w.heap[b.block]? = some (.cells cb tb (0, 0))) :
    (binOp .eql 117 (.pointer (some a)) (.pointer (some b))).run Yba.prog w = .ok (.bool false) w := by
  obtain ⟨j, hj, hs⟩ := info_some size87
  exact run_eql_ptr_other w Yba.underlying117 hj (by omega) hne ha hb

end Go.Proofs.Ybulkaiqu.Ptr
