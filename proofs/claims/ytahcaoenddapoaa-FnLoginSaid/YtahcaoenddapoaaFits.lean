/- A login as a value; zzFits3. -/
import Derived.Test.YtahcaoenddapoaaBase
namespace Go.Proofs.Ytahcaoenddapoaa
open Go.RowKit

/-- A login's fields. -/
structure Lg where
  t0 : Int
  t1 : Int
  t2 : Int
  t3 : Int
  t4 : Int
  f1 : Int
  f2 : Int
  f3 : Int
  f4 : Int
  off : Int
  lcid : Int
  s0 : ByteArray
  s1 : ByteArray
  s2 : ByteArray
  s3 : ByteArray
  s4 : ByteArray
  s5 : ByteArray
  s6 : ByteArray
  s7 : ByteArray

@[reducible] def Lg.val (x : Lg) : Value := .agg #[.int .u32 x.t0, .int .u32 x.t1, .int .u32 x.t2, .int .u32 x.t3, .int .u32 x.t4, .int .i64 x.f1, .int .i64 x.f2, .int .i64 x.f3, .int .i64 x.f4, .int .i64 x.off, .int .u32 x.lcid, .string x.s0, .string x.s1, .string x.s2, .string x.s3, .string x.s4, .string x.s5, .string x.s6, .string x.s7]

def Lg.fits (x : Lg) : Prop := (x.s0.size : Int) ≤ 2147483647 ∧ (x.s1.size : Int) ≤ 2147483647 ∧ (x.s2.size : Int) ≤ 2147483647 ∧ (x.s3.size : Int) ≤ 2147483647 ∧ (x.s4.size : Int) ≤ 2147483647 ∧ (x.s5.size : Int) ≤ 2147483647 ∧ (x.s6.size : Int) ≤ 2147483647 ∧ (x.s7.size : Int) ≤ 2147483647

set_option maxRecDepth 100000 in
set_option maxHeartbeats 2000000 in
theorem fits3_any (x : Lg) (w : World) : Calls Try.prog 19 #[x.val] w fun e w' => (∃ b, e = .returned (.bool b) ∧ (b = true → x.fits)) ∧ Fresh w w' := by
  obtain ⟨t0, t1, t2, t3, t4, f1, f2, f3, f4, off, lcid, s0, s1, s2, s3, s4, s5, s6, s7⟩ := x
  simp only [Lg.val]
  go_enter Try.func19, Try.ntmps19
  go_wp2
  all_goals
    go_ret
    refine ⟨⟨_, rfl, fun h => ?_⟩, (Kept.refl w _).alloc _⟩
    first | (cases h; done) | (unfold Lg.fits; refine ⟨?_, ?_, ?_, ?_, ?_, ?_, ?_, ?_⟩ <;> assumption)
end Go.Proofs.Ytahcaoenddapoaa
