/-
  Small laws for io.ReadAll: appending noughts, appending in place.
-/
import Derived.Test.YthoekplablhgfaaGreatDoorJRdr
import Derived.Lib.AppendZeros
import Derived.Laws.MakeOwn
namespace Go.Proofs.YthoekplablhgfaaGreatDoor
open Go.RowKit
set_option linter.unusedVariables false

def lenOf : Value → Nat
  | .slice _ n _ => n
  | _ => 0
/-- Nothing but noughts. -/
def Zt (tl : List Value) : Prop := ∀ v ∈ tl, v = Value.int .u8 0
theorem Zt.drop {tl : List Value} (h : Zt tl) (k : Nat) : Zt (tl.drop k) := fun v hv => h v (List.mem_of_mem_drop hv)
theorem zt_zero (n : Nat) : Zt (Builtin.zeroCells (Value.int .u8 0).cells n).toList := by
  intro v hv
  unfold Builtin.zeroCells at hv
  simp at hv
  obtain ⟨k, _, rfl⟩ := hv
  simp [Value.cells, Nat.mod_one]
theorem buf_ne {w : World} {g b : Nat} {xs : List Int} {tl : List Value} {cur : Array Value} {e : TypeId} {fr : Nat × Nat} (h : Buf w g xs tl) (hb : w.heap[b]? = some (.cells cur e fr)) (he : e ≠ 5) : g ≠ b := by
  rintro rfl
  unfold Buf at h
  rw [h] at hb
  injection hb with hb
  injection hb with _ hb _
  exact he hb.symm
/-- A block of another kind is not the row. -/
theorem row_ne {w : World} {base : Nat} {e : TypeId} {v : Value} {n : Nat} {xs : List Value} (h : w.ownsRow base e 1 v n xs) {b : Nat} {cur : Array Value} {t : TypeId} {fr : Nat × Nat} (hb : w.heap[b]? = some (.cells cur t fr)) (he : t ≠ e) : some b ≠ v.ownBlock := by
  intro hk
  rcases h.2 with ⟨rfl, _⟩ | ⟨g, cap, cur', rfl, _, h4, _⟩
  · simp [Value.ownBlock] at hk
  · have hk2 : b = g := by
      have : some b = some g := hk
      injection this
    subst hk2
    rw [h4] at hb
    injection hb with hb
    injection hb with _ hb _
    exact he hb.symm
theorem Chg.drewL {w w' : World} {X : Nat → Prop} (h : Chg w.drew w' X) : Chg w w' X := ⟨h.os, h.tape, h.output, h.size, h.block⟩
/-- A chunk: its row, its bytes, its capacity. -/
structure Ch where
  g : Nat
  cs : List Int
  cap : Nat
def Ch.val (x : Ch) : Value := .slice (some ⟨x.g, 0, none⟩) x.cs.length x.cap
def chB (L : List Ch) : List Int := L.flatMap Ch.cs
theorem chB_len : ∀ {L : List Ch}, (∀ x ∈ L, 1 ≤ x.cs.length) → L.length ≤ (chB L).length
  | [], _ => Nat.le_refl _
  | x :: L, h => by
    have h1 := h x (by simp)
    have h2 := chB_len (L := L) (fun y hy => h y (by simp [hy]))
    have e : chB (x :: L) = x.cs ++ chB L := by simp [chB]
    rw [e, List.length_append, List.length_cons]
    omega
theorem chB_snoc (L : List Ch) (x : Ch) : chB (L ++ [x]) = chB L ++ x.cs := by simp [chB]
theorem srcL_buf {w : World} {g : Nat} {xs : List Int} {tl : List Value} (h : Buf w g xs tl) : SrcL w ⟨g, 0, none⟩ xs := fun j v hj => by
  have hjl : j < xs.length := by
    have h8 := (List.getElem?_eq_some_iff.1 hj).1
    rwa [List.length_map] at h8
  rw [show (⟨g, 0, none⟩ : Addr).add j = ⟨g, j, none⟩ from by unfold Addr.add; split <;> simp_all, h.cell j hjl, ← hj, List.getElem?_map, List.getElem?_eq_getElem hjl, List.getD_eq_getElem?_getD, List.getElem?_eq_getElem hjl]
  rfl
theorem chB_take (L : List Ch) (j : Nat) : (chB (L.take j)).length ≤ (chB L).length := by
  have h : chB L = chB (L.take j) ++ chB (L.drop j) := by
    unfold chB
    rw [← List.flatMap_append, List.take_append_drop]
  rw [h, List.length_append]
  omega
theorem zeros_int : Tryz.prog.underlying 3 = some (.int .i64) := Tryz.underlying3

/-- append([]byte(nil), make([]byte, n)...). -/
theorem wpList_zeros {w : World} {ops : Array Oper} {rest : List Oper} {o : Oper} {a : Act} {Q : Exit → Act → World → Prop} (hgd : o.guard = none) (s x : Operand)
    (ho : o.op = .call { callee := .builtin .append, args := #[s, x], argTypes := #[44, 3] }) (n : Nat) (hs : a.eval s = .slice none 0 0) (hx : a.eval x = .int .i64 (n : Nat)) (h0 : 0 < n) (hn : n ≤ 200000)
    (h : ∀ c2 Z, n ≤ c2 → c2 ≤ maxLen → Z.length = c2 → Zt Z → wpList Tryz.prog ops Q rest (a.put o.dst (.slice (some ⟨w.heap.size, 0, none⟩) n c2)) (w.drew.alloc (.cells Z.toArray 5))) : wpList Tryz.prog ops Q (o :: rest) a w := by
  obtain ⟨iu, hiu, hu0, hu1, hu2⟩ := info_parts info_u8'
  have hr := Lib.run_append_nil_zeros (P := Tryz.prog) w 44 3 o.type 5 iu (.int .u8 0) .i64 .i64 Tryz.underlying44 zeros_int hiu hu0 n h0 (by rw [hu1]; omega) (by omega) (by rw [hu2]; omega)
  refine Lib.wpList_append_run _ hgd s x _ _ ho _ _ hs hx _ _ hr ?_
  have hge := grownCap_ge w n 0 5
  have hle := grownCap_le_maxLen w n 0 5 (by unfold maxLen; omega)
  have h9 := h (grownCap w n 0 5) (Builtin.zeroCells (Value.int .u8 0).cells n ++ Builtin.zeroCells (Value.int .u8 0).cells (grownCap w n 0 5 - n)).toList hge hle (by
    rw [Array.length_toList, Array.size_append, size_zeroCells, size_zeroCells]
    simp [Value.cells]
    omega) (by
    intro v hv
    rw [Array.toList_append, List.mem_append] at hv
    rcases hv with hv | hv
    · exact zt_zero _ v hv
    · exact zt_zero _ v hv)
  exact h9

/-- append onto a row of bytes that has room. -/
theorem wpList_fits {w : World} {ops : Array Oper} {rest : List Oper} {o : Oper} {a : Act} {Q : Exit → Act → World → Prop} (hgd : o.guard = none) (s x : Operand)
    (ho : o.op = .call { callee := .builtin .append, args := #[s, x], argTypes := #[44, 44] }) (g l c m c2 : Nat) (ad : Addr) (xs cs : List Int) (tl : List Value) (hs : a.eval s = .slice (some ⟨g, 0, none⟩) l c) (hx : a.eval x = .slice (some ad) m c2)
    (hb : Buf w g xs tl) (hl : xs.length = l) (hm : cs.length = m) (hsrc : SrcL w ad cs) (hroom : l + m ≤ c) (hfit : m ≤ tl.length)
    (h : ∀ w', Buf w' g (xs ++ cs) (tl.drop m) → Onl g w w' → wpList Tryz.prog ops Q rest (a.put o.dst (.slice (some ⟨g, 0, none⟩) (l + m) c)) w') : wpList Tryz.prog ops Q (o :: rest) a w := by
  obtain ⟨iu, hiu, hu0, hu1, hu2⟩ := info_parts info_u8'
  have hr := run_append_room (P := Tryz.prog) w 44 o.type 5 iu Tryz.underlying44 hiu g l c (xs.map (Value.int .u8) ++ tl).toArray hb ad m c2 (cs.map (Value.int .u8)) (by rw [hu1, List.length_map, hm, Nat.mul_one]) hsrc (one_cells cs) hroom (by
    rw [hu1, List.length_map, hm, List.size_toArray, List.length_append, List.length_map, hl]; omega)
  refine Lib.wpList_append_run _ hgd s x _ _ ho _ _ hs hx _ _ hr ?_
  refine h _ ?_ ((Onl.refl g w).setRow _)
  unfold Buf
  rw [setRow_heap w g _ _ _ (0, 0) hb]
  have e : ((xs.map (Value.int .u8) ++ tl).toArray.toList.take (l * iu.size) ++ cs.map (Value.int .u8) ++ (xs.map (Value.int .u8) ++ tl).toArray.toList.drop (l * iu.size + (cs.map (Value.int .u8)).length)) = (xs ++ cs).map (Value.int .u8) ++ tl.drop m := by
    rw [hu1, Nat.mul_one, List.length_map, hm, List.toList_toArray, List.take_append_of_le_length (by rw [List.length_map]; omega), List.take_of_length_le (by rw [List.length_map]; omega), List.map_append]
    rw [List.drop_append, List.drop_eq_nil_of_le (by rw [List.length_map]; omega), List.length_map, hl, List.nil_append]
    rw [show l + m - l = m from by omega]
  rw [e]

end Go.Proofs.YthoekplablhgfaaGreatDoor
