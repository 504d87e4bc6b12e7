/- io.EOF is itself. -/
import Derived.Test.YthmopakaikhjlaaGreatDoorSgn
import Derived.LaidEql
namespace Go.Proofs.YthmopakaikhjlaaGreatDoor
open Go.RowKit

theorem info92 : (Tryz.prog.info? 92).map (·.comparable) = some true := by kernel_rfl
theorem info94 : (Tryz.prog.info? 94).isSome = true := by kernel_rfl
theorem under47 : ∃ ms, Tryz.prog.underlying 47 = some (.interface ms) := ⟨_, Tryz.underlying47⟩
theorem under92 : Tryz.prog.underlying 92 = some (.pointer 94) := Tryz.underlying92
theorem eofEof (eb : Addr) (W : World) : (binOp .eql 47 (.iface 92 (.pointer (some eb))) (.iface 92 (.pointer (some eb)))).run Tryz.prog W = .ok (.bool true) W := by
  obtain ⟨j, hj⟩ := Option.isSome_iff_exists.1 info94
  obtain ⟨ms, hms⟩ := under47
  cases hi : Tryz.prog.info? 92 with
  | none => have h := info92; rw [hi] at h; cases h
  | some i =>
    have hc : i.comparable = true := by have h := info92; rw [hi] at h; simpa using h
    exact run_eql_iface_ptr_same W eb hms under92 hi hc hj
theorem eofNeq (eb : Addr) (W : World) : (binOp .neq 47 (.iface 92 (.pointer (some eb))) (.iface 92 (.pointer (some eb)))).run Tryz.prog W = .ok (.bool false) W := by
  obtain ⟨j, hj⟩ := Option.isSome_iff_exists.1 info94
  obtain ⟨ms, hms⟩ := under47
  cases hi : Tryz.prog.info? 92 with
  | none => have h := info92; rw [hi] at h; cases h
  | some i =>
    have hc : i.comparable = true := by have h := info92; rw [hi] at h; simpa using h
    simp only [binOp]
    simp [Op.equal, Op.maxDepth, run_equalIn_iface_ptr_same W 9998 eb hms under92 hi hc hj]
end Go.Proofs.YthmopakaikhjlaaGreatDoor
