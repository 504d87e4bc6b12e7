/- ZZPackets, impl.Packets: a message's packets, by the package. -/
import Derived.Test.YtahcaoenddapoaaNewBuf
import Derived.Test.YtahcaoenddapoaaSpecPk
namespace Go.Proofs.Ytahcaoenddapoaa
open Go.RowKit

theorem hd_zero (C : Nat) (h : 8 ≤ C) : Hd ((List.replicate C 0).set 1 0) 0 [] := by
  obtain ⟨D, rfl⟩ : ∃ D, C = D + 8 := ⟨C - 8, by omega⟩
  exact ⟨0, 0, 0, 0, List.replicate D 0, by simp [List.replicate_succ]⟩

theorem new_out {w w' : World} {base g hb bb ps C typ : Nat} {v : Value} (hN : New w base g hb bb ps C v []) (hR : Raw w' base g hb bb ps 32768 C 8 1 typ v [] ((List.replicate C 0).set 1 0)) : Out w' base g hb bb ps 32768 C typ 0 v [] :=
  ⟨by simp, by simp, _, by simpa [packs_zero] using hR, by simpa using hd_zero C (by have := hN.c1; omega)⟩

theorem RawS.ge {w : World} {base g hb bb ps N C pos seq typ : Nat} {v : Value} {out L : List Nat} (h : Raw w base g hb bb ps N C pos seq typ v out L) : ∀ k, RawS g hb bb v k → base ≤ k := fun k hk => by
  rcases hk with rfl | rfl | rfl | hk
  · exact h.b1
  · exact h.b2
  · exact h.b3
  · exact (h.wr.row.block k hk).1

set_option maxRecDepth 100000 in
set_option maxHeartbeats 2000000 in
theorem zzPackets_any (kind ps : Nat) (h9 : 9 ≤ ps) (hps : ps ≤ 32767) (T : List Nat) (hT : T.length ≤ 100000) (A : Option Addr) (n c : Nat) (w : World) (hx : Bts w (.slice A n c) T) :
    Calls Try.prog 43 #[.int .u8 kind, .int .i64 ps, .slice A n c, .bool false] w fun e w' => ∃ v l, e = .returned (.tuple #[v, .nilIface]) ∧ AllPacked (ps - 8) kind T l ∧ Row w.heap.size w' v l ∧ Fresh w w' := by
  have hnil : Bts w (.slice none 0 0) [] := (RowK.nil (E := 5) 0 w).bts
  go_enter Try.func43, Try.ntmps43
  go_wp2_with (fail)
  refine (zzBuffer_any ps (by omega) (.slice none 0 0) [] (by simp) _ hnil).mono ?_
  rintro e w1 ⟨g, hb, bb, C, v, rfl, hN, hF1⟩
  have hc1 := hN.c1
  have hc2 := hN.c2
  have HN := Go.Lib.hid hN
  clear hN
  go_wp2_with (fail)
  refine (begin_any w.heap.size g hb bb ps 32768 C 0 0 0 kind v [] _ _ HN.out.raw (by omega) (by omega)).mono ?_
  rintro e w2 ⟨rfl, R2, K2⟩
  have hO2 := new_out HN.out R2
  have F2 : Fresh w w2 := hF1.trans K2 (fun k hk hs => by have := RawS.ge HN.out.raw k hs; omega)
  have HO2 := Go.Lib.hid hO2
  have hge := RawS.ge R2
  have HGE := Go.Lib.hid hge
  clear R2 K2 hO2 hge
  go_wp2_with (fail)
  refine (write_any w.heap.size g hb bb ps 32768 C kind 0 v (.slice A n c) [] T _ HO2.out (.inl rfl) (hx.fresh F2) (fun j hj hs => by
    have h1 := HGE.out j hs
    have h2 := hx.block j hj
    omega) h9 (by omega) (by omega) (by omega) (by omega) F2.size (by simpa using (by omega : T.length ≤ 200000))).mono ?_
  rintro e w3 ⟨rfl, k', v3, hO3, hl3, K3, M3⟩
  have F3 : Fresh w w3 := F2.trans K3 (fun k hk hs => by have := HGE.out k hs; omega)
  rw [List.nil_append] at hO3 hl3
  have HO3 := Go.Lib.hid hO3
  have HL3 := Go.Lib.hid hl3
  clear hO3 hl3 K3
  go_wp2_with (fail)
  refine (finish_any w.heap.size g hb bb ps 32768 C kind k' v3 T _ HO3.out h9 (by omega) (by omega) (by omega) (by omega) F3.size (by omega)).mono ?_
  rintro e w4 ⟨rfl, v4, L4, seq4, R4, K4, M4⟩
  obtain ⟨a1, a2, L, hR, hH⟩ := HO3.out
  have hge3 := RawS.ge hR
  have F4 : Fresh w w4 := F3.trans K4 (fun k hk hs => by have := hge3 k hs; omega)
  have HR4 := Go.Lib.hid R4
  clear hR hH hge3 K4 R4
  go_wp2_with (fail)
  refine (written_any w.heap.size g hb bb ps 32768 C 8 seq4 kind v4 _ L4 _ HR4.out).mono ?_
  rintro e w5 ⟨rfl, rfl⟩
  go_wp2
  go_ret2
  exact ⟨v4, _, rfl, ⟨k', HL3.out, a2, rfl⟩, HR4.out.wr.row, F4⟩

theorem AllPacked.one {c typ : Nat} {T l l' : List Nat} (h : AllPacked c typ T l) (h' : AllPacked c typ T l') : l = l' := by
  obtain ⟨k, h1, h2, rfl⟩ := h
  obtain ⟨j, h3, h4, rfl⟩ := h'
  rw [last_one h1 h2 h3 h4]
theorem AllPacked.few {c typ : Nat} {T l : List Nat} (h : AllPacked c typ T l) (hc : 0 < c) (hT : T.length ≤ 100000) : l.length ≤ 1000000 := by
  obtain ⟨k, h1, h2, rfl⟩ := h
  have hk : c * k ≤ T.length := by rcases h1 with rfl | h1 <;> omega
  have e1 := packs_length c typ T k hk
  have e2 : k ≤ c * k := Nat.le_mul_of_pos_left k hc
  have e3 : (c + 8) * k = c * k + 8 * k := Nat.add_mul _ _ _
  simp [packed, pack]
  omega

theorem enter42 (args : Array Value) (W : World) : (callFunc 42 args).run Try.prog W = .ok (.enter 42 args) W := run_enter Try.func42 (by kernel_rfl) (by kernel_rfl) args W

set_option maxRecDepth 100000 in
theorem packets1_any (kind ps : Nat) (h9 : 9 ≤ ps) (hps : ps ≤ 32767) (hk : kind < 256) (T l : List Nat) (hl : AllPacked (ps - 8) kind T l) (hT : T.length ≤ 100000) (A : Option Addr) (n c : Nat) (w : World) (hx : Bts w (.slice A n c) T) (p0 p1 p2 : Nat)
    (h0 : w.cell? ⟨p0, 0, none⟩ = some (.int .i64 kind)) (h1 : w.cell? ⟨p1, 0, none⟩ = some (.int .i64 ps)) (h2 : w.cell? ⟨p2, 0, none⟩ = some (.slice A n c)) :
    Calls Try.prog 42 #[.pointer (some ⟨p0, 0, none⟩), .pointer (some ⟨p1, 0, none⟩), .pointer (some ⟨p2, 0, none⟩)] w fun e w' => ∃ b, e = .returned (.tuple #[b, .nilIface]) ∧ Bts w' b l ∧ Fresh w w' := by
  have HL := Go.Lib.hid hl
  clear hl
  go_enter Try.func42, Try.ntmps42
  go_wp2_with (fail)
  refine (zzPackets_any kind ps h9 hps T hT A n c _ hx).mono ?_
  rintro e w1 ⟨v, l', rfl, hp, hr, hF⟩
  have e1 := hp.one HL.out
  subst e1
  go_wp2
  go_ret2
  exact ⟨v, rfl, hr.bts, hF⟩

set_option maxRecDepth 100000 in
theorem implPackets_any (kind ps : Nat) (h9 : 9 ≤ ps) (hps : ps ≤ 32767) (hk : kind < 256) (T l : List Nat) (hl : AllPacked (ps - 8) kind T l) (hT : T.length ≤ 100000) (A : Option Addr) (n c : Nat) (w : World) (hx : Bts w (.slice A n c) T) :
    Calls Try.prog 17 #[.int .i64 kind, .int .i64 ps, .slice A n c] w fun e w' => ∃ v, e = .returned (.tuple #[v, .bool true]) ∧ Row w.heap.size w' v l ∧ Fresh w w' := by
  have hmf : ∀ (fn : Fn) (first cap : Array Value) (w : World), (Instr.makeFunc fn first cap).run Try.prog w = .ok (.func fn first cap) w := fun _ _ _ _ => rfl
  have hll := hl.few (by omega) hT
  have HL := Go.Lib.hid hl
  clear hl
  obtain ⟨c1, c2, c3, _, _⟩ := three_cells w (.int .i64 kind) (.int .i64 ps) (.slice A n c) 3 3 24
  have hF0 : Fresh w (((w.alloc (.cells #[.int .i64 kind] 3)).alloc (.cells #[.int .i64 ps] 3)).alloc (.cells #[.slice A n c] 24)) := (((Kept.refl w _).alloc _).alloc _).alloc _
  go_enter Try.func17, Try.ntmps17
  go_wp2_with (fail)
  refine (made_any 42 _ l (by omega) _ (enter42 _) (fun W hW => packets1_any kind ps h9 hps hk T l HL.out hT A n c W ((hx.fresh hF0).fresh hW) w.heap.size (w.heap.size + 1) (w.heap.size + 1 + 1) (hW.held c1 (fun h => h)) (hW.held c2 (fun h => h)) (hW.held c3 (fun h => h)))).mono ?_
  rintro e w1 ⟨v, rfl, hr, hF⟩
  go_wp2
  go_ret2
  exact ⟨v, rfl, hr.lower (by simp; omega), hF0.fresh hF⟩
end Go.Proofs.Ytahcaoenddapoaa
