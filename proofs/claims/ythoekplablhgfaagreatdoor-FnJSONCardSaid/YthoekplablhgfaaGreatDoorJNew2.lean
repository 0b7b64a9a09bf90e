/-
  The contracts of NewInput and NewParser, and of the deferred Restore.
-/
import Derived.Test.YthoekplablhgfaaGreatDoorJNew
import Derived.Test.YthoekplablhgfaaGreatDoorJAll
import Derived.Stop.Asserts
namespace Go.Proofs.YthoekplablhgfaaGreatDoor
open Go.RowKit
set_option linter.unusedVariables false

theorem nil_bytes (w : World) (v : Value) : (Instr.typeAssert (.iface 64 v) 81 103 true).run Tryz.prog w = .ok (.tuple #[.nilIface, .bool false]) w :=
  run_typeAssert_lacksB Tryz.underlying103 (by kernel_rfl) (by kernel_rfl) v 81 w

set_option maxRecDepth 100000 in
set_option maxHeartbeats 3200000 in
theorem NewInput_at (r g n c : Nat) (bs : List Int) (tl : List Value) (a : Addr) (w : World) (hr : Rdr w r g n c 0) (hb : Buf w g bs tl) (hn : bs.length = n) (hn1 : 1 ≤ n) (hnc : n ≤ c) (hs : n ≤ 50000) (hE : Eof w a) (h0r : r ≠ 0) :
    Calls Tryz.prog 32 #[.iface 64 (.pointer (some ⟨r, 0, none⟩))] w fun e w' => ∃ z h' cap' rf tl', e = .returned (.pointer (some ⟨z, 0, none⟩)) ∧ Inp w' z h' (n + 1) cap' 0 0 rf ∧ Buf w' h' (bs ++ [0]) tl' ∧ n + 1 ≤ cap' ∧ RestOk w' h' z n rf w.heap.size ∧
      w.heap.size ≤ z ∧ z < w'.heap.size ∧ w.heap.size ≤ h' ∧ h' < w'.heap.size ∧ h' ≠ z ∧ Chg w w' (fun k => k = r) := by
  have HR := Lib.hid hr
  have HB := Lib.hid hb
  have HE := Lib.hid hE
  have hta := nil_bytes
  clear hr hb hE
  go_enter Tryz.func32, Tryz.ntmps32
  go_wp2_with fail
  refine (ReadAll_at r g n c bs tl a w HR.out HB.out hn hn1 hnc hs HE.out h0r).mono ?_
  rintro e w1 ⟨h, cap, tail, rfl, hb1, hc1, hm1, hz1, hl1, hlt1, hch1⟩
  have HB1 := Lib.hid hb1
  have HC1 := Lib.hid hc1
  have HZ1 := Lib.hid hz1
  have HCH1 := Lib.hid hch1
  clear hb1 hc1 hz1 hch1
  go_wp2_with fail
  refine (NewInputBytes_at h n cap bs tail w1 HB1.out hn hn1 HC1.out HZ1.out hs hm1).mono ?_
  rintro e w2 ⟨z, h', cap', rf, tl', rfl, hi2, hb2, hc2, hr2, hz2, hzl2, hh2, hhl2, hhz2, hch2⟩
  have HI2 := Lib.hid hi2
  have HB2 := Lib.hid hb2
  have HR2 := Lib.hid hr2
  have HCH2 := Lib.hid hch2
  clear hi2 hb2 hr2 hch2
  go_wp2_with fail
  go_ret
  have hsz := HCH1.out.size
  refine ⟨z, h', cap', rf, tl', rfl, HI2.out, HB2.out, hc2, ?_, by omega, hzl2, by omega, hhl2, hhz2, HCH1.out.trans HCH2.out (fun k hk h => by omega)⟩
  rcases HR2.out with h9 | ⟨pc, pb, pn, cp, v, e1, e2, e3, e4, e5, e6, e7, e8, e9, e10⟩
  · exact .inl h9
  · exact .inr ⟨pc, pb, pn, cp, v, e1, e2, e3, e4, by omega, by omega, by omega, e8, e9, e10⟩

set_option maxRecDepth 100000 in
theorem NewParser_at (z : Nat) (w : World) :
    Calls Tryz.prog 34 #[.pointer (some ⟨z, 0, none⟩)] w fun e w' => ∃ p sv, e = .returned (.pointer (some ⟨p, 0, none⟩)) ∧ Par w' p z sv false ∧ Stk w' sv [0] ∧ w.heap.size ≤ p ∧ (∀ b, sv.ownBlock = some b → w.heap.size ≤ b ∧ b ≠ p ∧ b < w'.heap.size) ∧ p < w'.heap.size ∧ w.grownBy w' none := by
  go_enter Tryz.func34, Tryz.ntmps34
  go_wp2_with fail
  go_ret
  generalize ho1 : Obj.cells #[Value.int IntKind.u32 0] 87 (0, 0) = o1
  generalize ho2 : Obj.cells #[Value.pointer (some ⟨z, 0, none⟩), Value.slice (some ⟨w.heap.size, 0, none⟩) 1 1, Value.nilIface, Value.bool false] 111 (0, 0) = o2
  have g1 : ((w.alloc o1).alloc o2).heap[w.heap.size]? = some o1 := (heap_alloc_old _ _ (by simp)).trans (heap_alloc_new w o1)
  have g2 : ((w.alloc o1).alloc o2).heap[w.heap.size + 1]? = some o2 := by
    have h9 := heap_alloc_new (w.alloc o1) o2
    rw [World.size_alloc] at h9
    exact h9
  refine ⟨w.heap.size + 1, .slice (some ⟨w.heap.size, 0, none⟩) 1 1, rfl, ?_, ?_, by omega, fun b e => ?_, by simp, grownBy_trans (World.grownBy_alloc _ _ _) (World.grownBy_alloc _ _ _)⟩
  · unfold Par
    rw [g2, ← ho2]
  · exact ⟨rfl, .inr ⟨w.heap.size, 1, #[.int .u32 0], rfl, Nat.zero_le _, by rw [g1, ← ho1], by simp, by decide, rfl, rfl⟩⟩
  · have e1 : w.heap.size = b := by
      have e2 : some w.heap.size = some b := e
      injection e2
    subst e1
    exact ⟨Nat.le_refl _, by omega, by simp only [World.size_alloc]; omega⟩

set_option maxRecDepth 100000 in
theorem rest_d (pc pb pn h n cap : Nat) (v : Int) (xs : List Int) (tl : List Value) (w : World) (hc : w.cell? ⟨pc, 0, none⟩ = some (.int .u8 v)) (hb : w.cell? ⟨pb, 0, none⟩ = some (.slice (some ⟨h, 0, none⟩) (n + 1) cap)) (hn : w.cell? ⟨pn, 0, none⟩ = some (.int .i64 (n : Nat))) (hx : Buf w h xs tl) (hxl : n < xs.length) :
    Calls Tryz.prog 65 #[.pointer (some ⟨pc, 0, none⟩), .pointer (some ⟨pb, 0, none⟩), .pointer (some ⟨pn, 0, none⟩)] w fun e w' => e = .returned (.tuple #[]) ∧ Chg w w' (fun k => k = h) := by
  have hcl := hx.cell n hxl
  have hfz := hx.frozen n
  obtain ⟨n1, hn1⟩ : ∃ n1, n + 1 = n1 := ⟨_, rfl⟩
  rw [hn1] at hb
  have i1 : ((n : Nat) : Int) < ((n1 : Nat) : Int) := by omega
  have i2 : n < n1 := by omega
  clear hx hn1
  go_enter Tryz.func65, Tryz.ntmps65
  go_wp2_with fail
  go_end0
  exact ⟨rfl, Chg.set rfl⟩

theorem nf_no (w : World) : (binOp .neq 1 .nilFunc .nilFunc).run Tryz.prog w = .ok (.bool false) w := by kernel_rfl
theorem nf_yes (f : Fn) (x y : Array Value) (w : World) : (binOp .neq 1 (.func f x y) .nilFunc).run Tryz.prog w = .ok (.bool true) w := by kernel_rfl

set_option maxRecDepth 100000 in
/-- Restore, deferred. -/
theorem Restore_d (z h n cap pos st lo : Nat) (rf : Value) (u : FrameMode) (xs : List Int) (tl : List Value) (w : World) (hi : Inp w z h (n + 1) cap pos st rf) (hr : RestOk w h z n rf lo) (hx : Buf w h xs tl) (hxl : n < xs.length) (hhz : h ≠ z) :
    CallsD Tryz.prog 33 #[.pointer (some ⟨z, 0, none⟩)] u w fun e u' w' => u' = u ∧ (e = .returned (.tuple #[]) ∧ Chg w w' (fun k => k = h ∨ k = z)) := by
  have k4 := hi.c4
  have kf := hi.fz 4
  rcases hr with rfl | ⟨pc, pb, pn, cp, v, rfl, e2, e3, e4, e5, e6, e7, e8, e9, _⟩
  · have hnf := nf_no
    clear hi
    go_enter_d Tryz.func33, Tryz.ntmps33
    go_wp2_with fail
    go_end0
    exact ⟨rfl, Chg.refl _ _⟩
  · have HI := Lib.hid hi
    have HX := Lib.hid hx
    have hnf := nf_yes
    clear hi hx
    go_enter_d Tryz.func33, Tryz.ntmps33
    go_wp2_with fail
    refine (rest_d pc pb pn h n cp v xs tl w e2 e3 e4 HX.out hxl).mono ?_
    rintro e w1 ⟨rfl, hch⟩
    have hi1 : Inp w1 z h (n + 1) cap pos st _ := HI.out.keep (hch.block z HI.out.lt (fun e => hhz e.symm))
    have k4 := hi1.c4
    have kf := hi1.fz 4
    have HCH := Lib.hid hch
    clear hch hi1
    go_wp2_with fail
    go_end0
    exact ⟨rfl, (HCH.out.mono fun k hk => .inl hk).trans (Chg.set (.inr rfl)) fun _ _ x => x⟩

end Go.Proofs.YthoekplablhgfaaGreatDoor
