/- EncodeDecimal. -/
import Derived.Test.YthmopakaikhjlaaGreatDoorDgt
import Derived.Test.YthmopakaikhjlaaGreatDoorQuiet
import Derived.Deep.DeepCutAuto
import Derived.StillTailTactics
import Derived.BigRegion
import Derived.Deep.RegionWith
namespace Go.Proofs.YthmopakaikhjlaaGreatDoor
open Go.RowKit

/-- EncodeDecimal's four variables, in blocks from p on. -/
structure Ev (w : World) (p : Nat) (sg body : ByteArray) (P S : Nat) : Prop where
  cp : w.cell? ⟨p, 0, none⟩ = some (.int .i64 (P : Int))
  cs : w.cell? ⟨p + 1, 0, none⟩ = some (.int .i64 (S : Int))
  cg : w.cell? ⟨p + 2, 0, none⟩ = some (.string sg)
  cb : w.cell? ⟨p + 3, 0, none⟩ = some (.string body)
  fg : w.frozen? ⟨p + 2, 0, none⟩ = false
  fb : w.frozen? ⟨p + 3, 0, none⟩ = false
theorem Ev.kept {w w' : World} {p : Nat} {sg body : ByteArray} {P S : Nat} (h : Ev w p sg body P S) (hk : Fresh w w') : Ev w' p sg body P S :=
  ⟨hk.held h.cp (fun h => h), hk.held h.cs (fun h => h), hk.held h.cg (fun h => h), hk.held h.cb (fun h => h), (hk.frozen (p := ⟨p + 2, 0, none⟩) (World.block_lt_of_cell? w _ h.cg) (fun h => h)).trans h.fg, (hk.frozen (p := ⟨p + 3, 0, none⟩) (World.block_lt_of_cell? w _ h.cb) (fun h => h)).trans h.fb⟩
theorem Ev.setG {w : World} {p : Nat} {sg body : ByteArray} {P S : Nat} (h : Ev w p sg body P S) (x : ByteArray) : Ev (w.setCell ⟨p + 2, 0, none⟩ (.string x)) p x body P S :=
  ⟨by rw [World.cell?_setCell_other _ _ _ _ (by intro e; injection e with e1 e2; omega)]; exact h.cp, by rw [World.cell?_setCell_other _ _ _ _ (by intro e; injection e with e1 e2; omega)]; exact h.cs, World.cell?_setCell_same _ _ _ h.cg, by rw [World.cell?_setCell_other _ _ _ _ (by intro e; injection e with e1 e2; omega)]; exact h.cb, by rw [World.frozen?_setCell]; exact h.fg, by rw [World.frozen?_setCell]; exact h.fb⟩
theorem Ev.setB {w : World} {p : Nat} {sg body : ByteArray} {P S : Nat} (h : Ev w p sg body P S) (x : ByteArray) : Ev (w.setCell ⟨p + 3, 0, none⟩ (.string x)) p sg x P S :=
  ⟨by rw [World.cell?_setCell_other _ _ _ _ (by intro e; injection e with e1 e2; omega)]; exact h.cp, by rw [World.cell?_setCell_other _ _ _ _ (by intro e; injection e with e1 e2; omega)]; exact h.cs, by rw [World.cell?_setCell_other _ _ _ _ (by intro e; injection e with e1 e2; omega)]; exact h.cg, World.cell?_setCell_same _ _ _ h.cb, by rw [World.frozen?_setCell]; exact h.fg, by rw [World.frozen?_setCell]; exact h.fb⟩
@[reducible] def one (v : Value) (T : TypeId) : Obj := .cells #[v] T
theorem Ev.new (w : World) (sg body : ByteArray) (P S : Nat) : Ev ((((w.alloc (one (.int .i64 (P : Int)) 3)).alloc (one (.int .i64 (S : Int)) 3)).alloc (one (.string sg) 9)).alloc (one (.string body) 9)) w.heap.size sg body P S := by
  have a0 := heap_new w (one (.int .i64 (P : Int)) 3)
  have k1 : Fresh (w.alloc (one (.int .i64 (P : Int)) 3)) ((((w.alloc (one (.int .i64 (P : Int)) 3)).alloc (one (.int .i64 (S : Int)) 3)).alloc (one (.string sg) 9)).alloc (one (.string body) 9)) := (((Kept.refl _ _).alloc _).alloc _).alloc _
  have a1 := heap_new (w.alloc (one (.int .i64 (P : Int)) 3)) (one (.int .i64 (S : Int)) 3)
  have k2 : Fresh ((w.alloc (one (.int .i64 (P : Int)) 3)).alloc (one (.int .i64 (S : Int)) 3)) ((((w.alloc (one (.int .i64 (P : Int)) 3)).alloc (one (.int .i64 (S : Int)) 3)).alloc (one (.string sg) 9)).alloc (one (.string body) 9)) := ((Kept.refl _ _).alloc _).alloc _
  have a2 := heap_new ((w.alloc (one (.int .i64 (P : Int)) 3)).alloc (one (.int .i64 (S : Int)) 3)) (one (.string sg) 9)
  have k3 : Fresh (((w.alloc (one (.int .i64 (P : Int)) 3)).alloc (one (.int .i64 (S : Int)) 3)).alloc (one (.string sg) 9)) ((((w.alloc (one (.int .i64 (P : Int)) 3)).alloc (one (.int .i64 (S : Int)) 3)).alloc (one (.string sg) 9)).alloc (one (.string body) 9)) := (Kept.refl _ _).alloc _
  have a3 := heap_new (((w.alloc (one (.int .i64 (P : Int)) 3)).alloc (one (.int .i64 (S : Int)) 3)).alloc (one (.string sg) 9)) (one (.string body) 9)
  rw [size_new] at a1
  rw [size_new, size_new] at a2
  rw [size_new, size_new, size_new] at a3
  refine ⟨k1.held (cell_of_row _ _ 0 _ _ _ a0) (fun h => h), k2.held (cell_of_row _ _ 0 _ _ _ a1) (fun h => h), k3.held (cell_of_row _ _ 0 _ _ _ a2) (fun h => h), cell_of_row _ _ 0 _ _ _ a3, ?_, frozen_of_row _ _ 0 _ _ a3⟩
  exact (k3.frozen (p := ⟨w.heap.size + 2, 0, none⟩) (World.block_lt_of_cell? _ _ (cell_of_row _ _ 0 _ _ _ a2)) (fun h => h)).trans (frozen_of_row _ _ 0 _ _ a2)

set_option maxRecDepth 100000 in
set_option maxHeartbeats 1000000 in
theorem encClos_any (p : Nat) (sg body t : ByteArray) (P S : Nat) (eb : Addr) (neg : Bool) (ds : List Nat) (hP : P ≤ 38) (hS : S ≤ 38) (hc : Clean (sg ++ body) t S) (hs : (sg ++ body).size ≤ 100) (hn : Numb t neg ds) (hz : neg = true → dv ds ≠ 0) (hb : dv ds < 10 ^ P) (w : World) (he : w.cell? ⟨2, 0, none⟩ = some (eofV eb)) (hE : Ev w p sg body P S) (l : List Nat) (hl : (if neg then 0 else 1) :: leB (dv ds) (mag P) = l) :
    Calls Tryz.prog 21 #[.pointer (some ⟨p + 2, 0, none⟩), .pointer (some ⟨p + 3, 0, none⟩), .pointer (some ⟨p, 0, none⟩), .pointer (some ⟨p + 1, 0, none⟩)] w fun e w' => ∃ b, e = .returned (.tuple #[b, .nilIface]) ∧ Bts w' b l ∧ Fresh w w' := by
  have H0 := zzEnc_any (sg ++ body) t S eb P neg ds hP hc hs hn hz hb w he
  rw [hl] at H0
  have H := Go.Lib.hid H0
  have c1 := hE.cp
  have c2 := hE.cs
  have c3 := hE.cg
  have c4 := hE.cb
  have i1 : (P : Int) ≤ 38 := by omega
  have i2 : (S : Int) ≤ 38 := by omega
  have hsz : sg.size + body.size ≤ 100 := by rw [← ByteArray.size_append]; exact hs
  have i3 : (sg.size : Int) + (body.size : Int) ≤ 100 := by omega
  clear hc hs hn hz hb he hE H0 hl
  go_enter Tryz.func21, Tryz.ntmps21
  go_wp2_with (fail)
  refine H.out.mono ?_
  rintro e w1 ⟨g, rfl, hR, hF⟩
  have HR := Go.Lib.hid (And.intro hR.bts hF)
  clear hR hF
  go_wp2_with (fail)
  go_ret2
  exact ⟨_, rfl, HR.out.1, HR.out.2⟩
end Go.Proofs.YthmopakaikhjlaaGreatDoor
