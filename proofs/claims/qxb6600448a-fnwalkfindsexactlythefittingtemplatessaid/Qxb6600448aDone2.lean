/- Seat b6600448a: lookup.walk where the path is done, any node. -/
import Derived.Test.Qxb6600448aDone
namespace Go.Proofs.Qxb6600448a.Tr
open Go.RowKit
set_option linter.unusedVariables false

set_option maxHeartbeats 2000000 in
theorem done_fork (w0 w : World) (xss : List (List ByteArray)) (N : Nat) (t : Tre) (lb sb tb : Nat) (s0 s : ByteArray) (m : Int) (HB : Hid (Base w0 xss N t lb sb tb s0 m)) (p : List Seg) (b : Nat) (HP : Hid (t.at' p = some b)) (d : Nat) (HD : Hid (t.at' (p ++ [.deep]) = some d))
    (v : Value) (l : List Nat) (HF : Hid (Found w0 w s0 N v l)) (HN : Hid (∀ x, Hit xss N p [] x → x ∉ l)) :
    Calls Try.prog 29 #[.pointer (some ⟨lb, 0, none⟩), v, .pointer (some ⟨b, 0, none⟩), .string s, .bool true] w fun e w' => WalkEnd w0 w' s0 N l (Hit xss N p []) e := by
  obtain ⟨L, HL⟩ : ∃ L, Hid (at_ xss N p = L) := ⟨_, rfl⟩
  obtain ⟨pe, ce, hev, hce, hcell⟩ := HB.out.ends HP.out
  rw [HL.out] at hev hce hcell
  obtain ⟨_, _, n2, n3⟩ := HB.out.node HF.out.bel HP.out
  rw [HD.out] at n2
  rw [hev] at n3
  obtain ⟨ne, HNE⟩ : ∃ ne, Hid (L.length = ne) := ⟨_, rfl⟩
  have hne : ne ≤ 65536 := by have := at_len xss N p; have := HB.out.small; rw [HL.out, HNE.out] at *; omega
  rw [HNE.out] at n3 hce
  have HC := Hid.mk' hcell
  have n2' : w.cell? ⟨b, 2, none⟩ = some (.pointer (some ⟨d, 0, none⟩)) := n2
  clear hev hcell n2
  go_enter Try.func29, Try.ntmps29
  go_wp2_with fail
  go_loopw [1, 23] (fun u z wr => ∃ (k : Nat) (l1 : List Nat), k ≤ ne ∧ z = .int .i64 k ∧ Hid (Got w0 wr s0 N u l L l1 k)) (fun u z _ => ne - (intOf z).toNat)
  case atStart => exact ⟨0, l, by omega, rfl, HF.out, by simp⟩
  case round =>
    obtain ⟨k, l1, hk, rfl, HG⟩ := hrel
    by_cases hlt : k < ne
    · obtain ⟨x, hx⟩ : ∃ x, L[k]? = some x := ⟨_, List.getElem?_eq_getElem (by rw [HNE.out]; exact hlt)⟩
      obtain ⟨g, rfl, hc⟩ := HC.out _ HG.out.f.bel k x hx
      have HX := Hid.mk' hx
      have HE : Hid (Ends xss N p x) := at_mem.1 (by rw [HL.out]; exact List.mem_of_getElem? hx)
      have HNI : Hid (x ∉ l1) := by
        intro hm
        rcases (HG.out.mem x).1 hm with h | h
        · exact HN.out x ((hit_done _ _ _ _).2 (.inl HE.out)) h
        · exact up_take (by have := at_up xss N p; rw [HL.out] at this; exact this) hx h
      clear hx
      go_wp2_with fail
      refine (add_v w0 _ lb sb tb N x s0 _ l1 HB.out.look HG.out.f HB.out.small HE.out.1 HNI.out).mono ?_
      rintro e w2 ⟨v2, l2, rfl, hf2, hm2⟩
      have HG2 : Hid (Got w0 w2 s0 N v2 l L l2 (k + 1)) := by
        refine ⟨hf2, fun y => ?_⟩
        rw [hm2, HG.out.mem, take_mem HX.out]
        constructor
        · rintro (h | h | h)
          · exact .inr (.inl h)
          · exact .inl h
          · exact .inr (.inr h)
        · rintro (h | h | h)
          · exact .inr (.inl h)
          · exact .inl h
          · exact .inr (.inr h)
      clear hf2 hm2
      go_wp2_with fail
      go_roundw
      case rel => exact ⟨k + 1, l2, by omega, by go_num, HG2⟩
      case measure => simp [intOf]; omega
    · have n2r : wr.cell? ⟨b, 2, none⟩ = some (.pointer (some ⟨d, 0, none⟩)) := by
        have := (HB.out.node HG.out.f.bel HP.out).2.2.1
        rw [HD.out] at this; exact this
      have HE : Hid (∀ x, x ∈ l1 ↔ x ∈ l ∨ Ends xss N p x) := by
        intro x
        rw [HG.out.mem, List.take_of_length_le (by rw [HNE.out]; omega), ← HL.out, at_mem]
      have HF1 := Hid.mk' HG.out.f
      have HD0 : Hid (t.at' (p ++ [.deep] ++ [.deep]) = none) := HB.out.gr.dd p .deep
      have HN1 : Hid (∀ x, Ends xss N (p ++ [.deep]) x → x ∉ l1) := by
        intro x hx hm
        rcases (HE.out x).1 hm with h | h
        · exact HN.out x ((hit_done _ _ _ _).2 (.inr hx)) h
        · exact snoc_ne p .deep (hx.2.symm.trans h.2)
      clear HG
      go_wp2_with fail
      refine (done_leaf w0 _ xss N t lb sb tb s0 _ m HB (p ++ [.deep]) d HD HD0 _ l1 HF1 HN1).mono ?_
      rintro e w2 ⟨v2, l2, rfl, hf2, hm2⟩
      have HF2 := Hid.mk' hf2
      have HM2 : Hid (∀ x, x ∈ l2 ↔ x ∈ l ∨ Hit xss N p [] x) := by
        intro x
        rw [hm2, HE.out, hit_done]
        exact or_assoc
      clear hf2 hm2
      go_wp2_with fail
      go_ret
      exact ⟨_, l2, rfl, HF2.out, HM2.out⟩

theorem done_any (w0 w : World) (xss : List (List ByteArray)) (N : Nat) (t : Tre) (lb sb tb : Nat) (s0 s : ByteArray) (m : Int) (HB : Hid (Base w0 xss N t lb sb tb s0 m)) (p : List Seg) (b : Nat) (HP : Hid (t.at' p = some b))
    (v : Value) (l : List Nat) (HF : Hid (Found w0 w s0 N v l)) (HN : Hid (∀ x, Hit xss N p [] x → x ∉ l)) :
    Calls Try.prog 29 #[.pointer (some ⟨lb, 0, none⟩), v, .pointer (some ⟨b, 0, none⟩), .string s, .bool true] w fun e w' => WalkEnd w0 w' s0 N l (Hit xss N p []) e := by
  cases hd : t.at' (p ++ [.deep]) with
  | some d => exact done_fork w0 w xss N t lb sb tb s0 s m HB p b HP d hd v l HF HN
  | none =>
    refine (done_leaf w0 w xss N t lb sb tb s0 s m HB p b HP hd v l HF fun x hx => HN.out x ((hit_done _ _ _ _).2 (.inl hx))).mono ?_
    rintro e w2 ⟨v2, l2, rfl, hf2, hm2⟩
    refine ⟨v2, l2, rfl, hf2, fun x => ?_⟩
    rw [hm2, hit_done]
    constructor
    · rintro (h | h)
      · exact .inl h
      · exact .inr (.inl h)
    · rintro (h | h | h)
      · exact .inl h
      · exact .inr h
      · exact (HB.out.no_ends hd x h).elim

end Go.Proofs.Qxb6600448a.Tr
