/- Seat b6600448a: lookup.walk where the path is done. -/
import Derived.Test.Qxb6600448aHits
namespace Go.Proofs.Qxb6600448a.Tr
open Go.RowKit
set_option linter.unusedVariables false

/-- the ends of a node, in memory. -/
theorem Base.ends {w0 : World} {xss : List (List ByteArray)} {N : Nat} {t : Tre} {lb sb tb : Nat} {s0 : ByteArray} {m : Int} (h : Base w0 xss N t lb sb tb s0 m) {p : List Seg} {b : Nat} (hp : t.at' p = some b) :
    ∃ pe ce, t.ev p = .slice pe (at_ xss N p).length ce ∧ (at_ xss N p).length ≤ ce ∧ ∀ w, Below w0.heap.size w0 w → ∀ k x, (at_ xss N p)[k]? = some x → ∃ g, pe = some ⟨g, 0, none⟩ ∧ w.cell? ⟨g, k, none⟩ = some (.int .i64 (x : Nat)) := by
  obtain ⟨B, K, hr⟩ := h.rep
  have ho := hr.ends p b hp
  rw [h.gr.en p b hp] at ho
  rcases ho.2 with ⟨h1, h2⟩ | ⟨g, cap, cur, h1, h2, h3, h4, _⟩
  · refine ⟨none, 0, ?_, by omega, ?_⟩
    · rw [h1, h2]
    · intro w hb k x hk
      have := (List.getElem?_eq_some_iff.1 hk).1
      omega
  · refine ⟨some ⟨g, 0, none⟩, cap, h1, h4, ?_⟩
    intro w hb k x hk
    have hkl := (List.getElem?_eq_some_iff.1 hk).1
    refine ⟨g, rfl, ?_⟩
    have hg : g < w0.heap.size := (Array.getElem?_eq_some_iff.1 h3).1
    rw [h1] at ho
    rw [hb.cell (p := ⟨g, k, none⟩) hg, ho.cellAt k (by omega), List.getElem?_map, hk]
    rfl
theorem at_mem {xss : List (List ByteArray)} {N : Nat} {p : List Seg} {x : Nat} : x ∈ at_ xss N p ↔ Ends xss N p x := by
  unfold at_ Ends
  simp
theorem at_up (xss : List (List ByteArray)) (N : Nat) (p : List Seg) : Up (at_ xss N p) := up_range _ _
theorem up_take {l : List Nat} {k x : Nat} (h : Up l) (hk : l[k]? = some x) : x ∉ l.take k := by
  obtain ⟨hl, rfl⟩ := List.getElem?_eq_some_iff.1 hk
  intro hm
  obtain ⟨j, hj, he⟩ := List.getElem_of_mem hm
  rw [List.length_take] at hj
  rw [List.getElem_take] at he
  have := List.pairwise_iff_getElem.1 h j k (by omega) hl (by omega)
  omega
theorem take_mem {l : List Nat} {k x : Nat} (hk : l[k]? = some x) (y : Nat) : y ∈ l.take (k + 1) ↔ y = x ∨ y ∈ l.take k := by
  obtain ⟨hl, rfl⟩ := List.getElem?_eq_some_iff.1 hk
  rw [List.take_succ_eq_append_getElem hl, List.mem_append, List.mem_singleton]
  exact Or.comm

/-- the loop's relation. -/
structure Got (w0 wr : World) (s0 : ByteArray) (N : Nat) (v : Value) (l L : List Nat) (l1 : List Nat) (k : Nat) : Prop where
  f : Found w0 wr s0 N v l1
  mem : ∀ x, x ∈ l1 ↔ x ∈ l ∨ x ∈ L.take k

set_option maxHeartbeats 2000000 in
theorem done_leaf (w0 w : World) (xss : List (List ByteArray)) (N : Nat) (t : Tre) (lb sb tb : Nat) (s0 s : ByteArray) (m : Int) (HB : Hid (Base w0 xss N t lb sb tb s0 m)) (p : List Seg) (b : Nat) (HP : Hid (t.at' p = some b)) (HD : Hid (t.at' (p ++ [.deep]) = none))
    (v : Value) (l : List Nat) (HF : Hid (Found w0 w s0 N v l)) (HN : Hid (∀ x, Ends xss N p x → x ∉ l)) :
    Calls Try.prog 29 #[.pointer (some ⟨lb, 0, none⟩), v, .pointer (some ⟨b, 0, none⟩), .string s, .bool true] w fun e w' => WalkEnd w0 w' s0 N l (Ends xss N p) e := by
  obtain ⟨L, HL⟩ : ∃ L, Hid (at_ xss N p = L) := ⟨_, rfl⟩
  obtain ⟨pe, ce, hev, hce, hcell⟩ := HB.out.ends HP.out
  rw [HL.out] at hev hce hcell
  obtain ⟨_, _, n2, n3⟩ := HB.out.node HF.out.bel HP.out
  rw [HD.out] at n2
  rw [hev] at n3
  obtain ⟨ne, HNE⟩ : ∃ ne, Hid (L.length = ne) := ⟨_, rfl⟩
  have hne : ne ≤ 65536 := by have := at_len xss N p; have := HB.out.small; rw [HL.out, HNE.out] at *; omega
  rw [HNE.out] at n3 hce
  have HC := Hid.mk' hcell
  have n2' : w.cell? ⟨b, 2, none⟩ = some (.pointer none) := n2
  clear hev hcell n2
  go_enter Try.func29, Try.ntmps29
  go_wp2_with fail
  go_loopw [1, 23] (fun u z wr => ∃ (k : Nat) (l1 : List Nat), k ≤ ne ∧ z = .int .i64 k ∧ Hid (Got w0 wr s0 N u l L l1 k)) (fun u z _ => ne - (intOf z).toNat)
  case atStart => exact ⟨0, l, by omega, rfl, HF.out, by simp⟩
  case round =>
    obtain ⟨k, l1, hk, rfl, HG⟩ := hrel
    by_cases hlt : k < ne
    · obtain ⟨x, hx⟩ : ∃ x, L[k]? = some x := ⟨_, List.getElem?_eq_getElem (by rw [HNE.out]; exact hlt)⟩
      obtain ⟨g, rfl, hc⟩ := HC.out _ HG.out.f.bel k x hx
      have HX := Hid.mk' hx
      have HE : Hid (Ends xss N p x) := at_mem.1 (by rw [HL.out]; exact List.mem_of_getElem? hx)
      have HNI : Hid (x ∉ l1) := by
        intro hm
        rcases (HG.out.mem x).1 hm with h | h
        · exact HN.out x HE.out h
        · exact up_take (by have := at_up xss N p; rw [HL.out] at this; exact this) hx h
      clear hx
      go_wp2_with fail
      refine (add_v w0 _ lb sb tb N x s0 _ l1 HB.out.look HG.out.f HB.out.small HE.out.1 HNI.out).mono ?_
      rintro e w2 ⟨v2, l2, rfl, hf2, hm2⟩
      have HG2 : Hid (Got w0 w2 s0 N v2 l L l2 (k + 1)) := by
        refine ⟨hf2, fun y => ?_⟩
        rw [hm2, HG.out.mem, take_mem HX.out]
        constructor
        · rintro (h | h | h)
          · exact .inr (.inl h)
          · exact .inl h
          · exact .inr (.inr h)
        · rintro (h | h | h)
          · exact .inr (.inl h)
          · exact .inl h
          · exact .inr (.inr h)
      clear hf2 hm2
      go_wp2_with fail
      go_roundw
      case rel => exact ⟨k + 1, l2, by omega, by go_num, HG2⟩
      case measure => simp [intOf]; omega
    · have n2r : wr.cell? ⟨b, 2, none⟩ = some (.pointer none) := by
        have := (HB.out.node HG.out.f.bel HP.out).2.2.1
        rw [HD.out] at this; exact this
      have HE : Hid (∀ x, x ∈ l1 ↔ x ∈ l ∨ Ends xss N p x) := by
        intro x
        rw [HG.out.mem, List.take_of_length_le (by rw [HNE.out]; omega), ← HL.out, at_mem]
      have HF1 := Hid.mk' HG.out.f
      clear HG
      go_wp2_with fail
      go_ret
      exact ⟨_, l1, rfl, HF1.out, HE.out⟩

end Go.Proofs.Qxb6600448a.Tr
