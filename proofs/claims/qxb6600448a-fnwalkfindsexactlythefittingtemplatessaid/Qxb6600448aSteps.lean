/- Seat b6600448a: node.child whole; ZZNewNode, ZZChild, zzSegKind, ZZAppendEnd. -/
import Derived.Test.Qxb6600448aLit3
import Derived.Maps.AppendAt
namespace Go.Proofs.Qxb6600448a.Tr
open Go.RowKit
set_option linter.unusedVariables false

def kindOf : Seg → Nat
  | .lit _ => 0
  | .wild => 1
  | .deep => 2

theorem ChildEnd.mono {w' : World} {B K K' : Nat} {t : Tre} {q0 : List Seg} {e : Ending} (h : ChildEnd w' B K t q0 e) (hK : K ≤ K') : ChildEnd w' B K' t q0 e := by
  obtain ⟨c, t', h1, h2, h3, h4⟩ := h
  exact ⟨c, t', h1, h2.mono hK, h3, h4⟩

theorem child_any (p : List Seg) (s : Seg) (b B K : Nat) (t : Tre) (x : ByteArray) (w : World) (hR : Rep w B K t) (hp : t.at' p = some b) (hx : x.size ≤ maxLen) (hK : K < maxLen) (hs : ∀ y, s = .lit y → y = txt x) :
    Calls Try.prog 30 #[.pointer (some ⟨b, 0, none⟩), .agg #[.int .i64 (kindOf s : Nat), .string x]] w fun e w' => ChildEnd w' B (K + 1) t (p ++ [s]) e ∧ Below B w w' := by
  cases s with
  | wild => exact (child_wild p b B K t x w hR hp).mono fun e w' h => ⟨h.1.mono (Nat.le_succ _), h.2⟩
  | deep => exact (child_deep p b B K t x w hR hp).mono fun e w' h => ⟨h.1.mono (Nat.le_succ _), h.2⟩
  | lit y =>
    obtain rfl := hs y rfl
    cases hm : t.mp p with
    | none => exact child_lit_nil p b B K t x w hR hp hx hK hm
    | some m =>
      cases hc : t.at' (p ++ [.lit (txt x)]) with
      | none => exact child_lit_new p b B K m t x w hR hp hx hK hm hc
      | some c => exact (child_lit_old p b B K c m t x w hR hp hx hm hc).mono fun e w' h => ⟨h.1.mono (Nat.le_succ _), h.2⟩

theorem zzchild_any (p : List Seg) (s : Seg) (b B K : Nat) (t : Tre) (x : ByteArray) (w : World) (HR : Hid (Rep w B K t)) (HP : Hid (t.at' p = some b)) (hx : x.size ≤ maxLen) (hK : K < maxLen) (hs : ∀ y, s = .lit y → y = txt x) :
    Calls Try.prog 24 #[.pointer (some ⟨b, 0, none⟩), .int .i64 (kindOf s : Nat), .string x] w fun e w' => ChildEnd w' B (K + 1) t (p ++ [s]) e ∧ Below B w w' := by
  go_enter Try.func24, Try.ntmps24
  go_wp2_with fail
  refine (child_any p s b B K t x w HR.out HP.out hx hK hs).mono ?_
  rintro e w1 ⟨⟨c, t', rfl, h2, h3, h4⟩, hb⟩
  have H2 := Hid.mk' h2
  have H3 := Hid.mk' h3
  have H4 := Hid.mk' h4
  have H5 := Hid.mk' hb
  clear h2 h3 h4 hb
  go_wp2
  go_ret
  exact ⟨⟨c, t', rfl, H2.out, H3.out, H4.out⟩, H5.out⟩

/-! ### the root -/
def root (b : Nat) : Tre := ⟨fun q => if q = [] then some b else none, fun _ => none, fun _ => .slice none 0 0, fun _ => []⟩
theorem root_at {b d : Nat} {q : List Seg} (h : (root b).at' q = some d) : q = [] ∧ d = b := by
  unfold root at h
  simp only at h
  split at h
  · rename_i e
    simp only [Option.some.injEq] at h
    exact ⟨e, h.symm⟩
  · cases h
theorem root_none (b : Nat) (q : List Seg) (x : Seg) : (root b).at' (q ++ [x]) = none := by
  unfold root
  simp
theorem Rep.root (w : World) (K : Nat) : Rep (w.alloc zeroNode) w.heap.size K (root w.heap.size) where
  obj p b hp := by
    obtain ⟨rfl, rfl⟩ := root_at hp
    rw [heap_new]
    unfold nodeObj
    rw [root_none, root_none]
    rfl
  lo p b hp := by obtain ⟨rfl, rfl⟩ := root_at hp; exact Nat.le_refl _
  inj p q b hp hq := by obtain ⟨rfl, _⟩ := root_at hp; obtain ⟨rfl, _⟩ := root_at hq; rfl
  pre p x b hp := by rw [root_none] at hp; cases hp
  mapn p b hp hm s := root_none _ _ _
  maps p b m hp hm := by cases hm
  minj p q b c m hp hq hm := by cases hm
  ends p b hp := ⟨rfl, .inl ⟨rfl, rfl⟩⟩
  einj p q b c g hp hq hg := by simp [Tr.root, Value.ownBlock] at hg

def NewEnd (w w' : World) (e : Ending) : Prop := e = .returned (ptr (some w.heap.size)) ∧ w' = w.alloc zeroNode
theorem new_any (w : World) : Calls Try.prog 23 #[] w fun e w' => NewEnd w w' e := by
  go_enter Try.func23, Try.ntmps23
  go_wp2
  go_ret
  exact ⟨rfl, rfl⟩

/-! ### zzSegKind -/
theorem seg_deep {xs : List ByteArray} {j : Nat} {x : ByteArray} (hx : xs.getD j mt = x) (h : (x.toList == [42, 42]) = true) (hj : j + 1 = xs.length) : segAt (txts xs) j = .deep := by
  unfold segAt
  rw [txts_getD, hx, txts_length]
  rw [Lib.toList_data] at h
  exact if_pos ⟨by simpa [txt] using h, hj⟩
theorem seg_nd {xs : List ByteArray} {j : Nat} {x : ByteArray} (hx : xs.getD j mt = x) (h : (x.toList == [42, 42]) = false ∨ j + 1 ≠ xs.length) : segAt (txts xs) j = if txt x = [42] then .wild else .lit (txt x) := by
  unfold segAt
  rw [txts_getD, hx, txts_length]
  refine if_neg fun hh => ?_
  rcases h with h | h
  · rw [Lib.toList_data] at h
    have : x.data.toList = [42, 42] := hh.1
    rw [this] at h
    simp at h
  · exact h hh.2
theorem is_star {x : ByteArray} {b : Bool} (h : (x.toList == [42]) = b) : (if txt x = [42] then Seg.wild else .lit (txt x)) = if b then .wild else .lit (txt x) := by
  rw [Lib.toList_data] at h
  unfold txt
  cases b with
  | true => rw [if_pos (by simpa using h)]; rfl
  | false => rw [if_neg (by simpa using h)]; rfl

set_option maxHeartbeats 1000000 in
theorem kind_any (p : Option Addr) (n c j : Nat) (xs : List ByteArray) (w : World) (hn : n ≤ 1048576) (hj : j < n) (HS : Hid (SeeS w p n c xs)) :
    Calls Try.prog 27 #[.slice p n c, .int .i64 (j : Nat)] w fun e w' => e = .returned (.int .i64 (kindOf (segAt (txts xs) j) : Nat)) ∧ w' = w := by
  obtain ⟨b, o, rfl, hcs⟩ := HS.out.cells (by omega)
  obtain ⟨x, HX⟩ : ∃ x, Hid (xs.getD j mt = x) := ⟨_, rfl⟩
  have hc1 : w.cell? ⟨b, o + j, none⟩ = some (.string x) := by rw [← HX.out]; exact hcs j hj
  have LX := Hid.mk' HS.out.len
  clear hcs
  rcases h2 : (x.toList == [42, 42]) with _ | _
  · have HE := Hid.mk' (seg_nd HX.out (.inl h2))
    rcases h1 : (x.toList == [42]) with _ | _
    · have HF := Hid.mk' (is_star h1)
      go_enter Try.func27, Try.ntmps27
      go_wp2
      go_ret
      exact ⟨by rw [HE.out, HF.out]; rfl, rfl⟩
    · have HF := Hid.mk' (is_star h1)
      go_enter Try.func27, Try.ntmps27
      go_wp2
      go_ret
      exact ⟨by rw [HE.out, HF.out]; rfl, rfl⟩
  · by_cases hl : j + 1 = n
    · have HE := Hid.mk' (seg_deep HX.out h2 (by rw [LX.out]; exact hl))
      go_enter Try.func27, Try.ntmps27
      go_wp2
      go_ret
      exact ⟨by rw [HE.out]; rfl, rfl⟩
    · have HE := Hid.mk' (seg_nd HX.out (.inr (by rw [LX.out]; exact hl)))
      have h1 : (x.toList == [42]) = false := by
        have : x.toList = [42, 42] := by simpa using h2
        rw [this]; rfl
      have HF := Hid.mk' (is_star h1)
      go_enter Try.func27, Try.ntmps27
      go_wp2
      go_ret
      exact ⟨by rw [HE.out, HF.out]; rfl, rfl⟩

end Go.Proofs.Qxb6600448a.Tr
