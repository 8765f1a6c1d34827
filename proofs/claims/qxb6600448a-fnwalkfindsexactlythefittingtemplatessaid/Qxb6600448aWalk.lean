/- Seat b6600448a: lookup.walk with a path before it. -/
import Derived.Test.Qxb6600448aDone2
namespace Go.Proofs.Qxb6600448a.Tr
open Go.RowKit
set_option linter.unusedVariables false

theorem Found.dr {w0 w : World} {s : ByteArray} {N : Nat} {v : Value} {l : List Nat} (h : Found w0 w s N v l) (q : Nat) : Found w0 (w.drewN q) s N v l := ⟨h.own, h.up, h.lt, below_dr h.bel q⟩
def PA (xss : List (List ByteArray)) (N : Nat) (p : List Seg) (a : ByteArray) (rs : List Txt) (x : Nat) : Prop := Hit xss N (p ++ [.lit (txt a)]) rs x
def PW (xss : List (List ByteArray)) (N : Nat) (p : List Seg) (a : ByteArray) (rs : List Txt) (x : Nat) : Prop := txt a ≠ [] ∧ Hit xss N (p ++ [.wild]) rs x
def PD (xss : List (List ByteArray)) (N : Nat) (p : List Seg) (x : Nat) : Prop := Ends xss N (p ++ [.deep]) x
structure Part (xss : List (List ByteArray)) (N : Nat) (p : List Seg) (a : ByteArray) (rs ps : List Txt) (l : List Nat) : Prop where
  hit : ∀ x, Hit xss N p ps x ↔ PA xss N p a rs x ∨ PW xss N p a rs x ∨ PD xss N p x
  da : ∀ x, PA xss N p a rs x → x ∉ l
  dw : ∀ x, PW xss N p a rs x → x ∉ l ∧ ¬ PA xss N p a rs x
  dd : ∀ x, PD xss N p x → x ∉ l ∧ ¬ PA xss N p a rs x ∧ ¬ PW xss N p a rs x
theorem Part.mk' {xss : List (List ByteArray)} {N : Nat} {p : List Seg} {a : ByteArray} {rs : List Txt} {l : List Nat} (h : ∀ x, Hit xss N p (txt a :: rs) x → x ∉ l) : Part xss N p a rs (txt a :: rs) l := by
  have hit := hit_step xss N p (txt a) rs
  refine ⟨hit, fun x hx => h x ((hit x).2 (.inl hx)), fun x hx => ⟨h x ((hit x).2 (.inr (.inl hx))), fun hy => ?_⟩, fun x hx => ⟨h x ((hit x).2 (.inr (.inr hx))), fun hy => ?_, fun hy => ?_⟩⟩
  · obtain ⟨_, _, q, h1, _⟩ := hx
    obtain ⟨_, q', h2, _⟩ := hy
    have := under_ne h1 h2
    cases this
  · obtain ⟨_, q', h2, _⟩ := hy
    have := under_ne (s := .deep) (q := []) (by rw [hx.2]; simp) h2
    cases this
  · obtain ⟨_, _, q', h2, _⟩ := hy
    have := under_ne (s := .deep) (q := []) (by rw [hx.2]; simp) h2
    cases this
theorem empty_txt {a : ByteArray} {b : Bool} (h : a.toList.isEmpty = b) : (txt a = []) ↔ b = true := by
  rw [Lib.toList_data] at h
  unfold txt
  cases hh : a.data.toList with
  | nil => rw [hh] at h; simp at h; simp [h]
  | cons y ys => rw [hh] at h; simp at h; simp [h]
theorem or_chain {L0 L1 L2 L3 A W D H : Prop} (h1 : L1 ↔ L0 ∨ A) (h2 : L2 ↔ L1 ∨ W) (h3 : L3 ↔ L2 ∨ D) (hh : H ↔ A ∨ W ∨ D) : L3 ↔ L0 ∨ H := by
  rw [h3, h2, h1, hh, or_assoc, or_assoc]
theorem or_stay {A B : Prop} (h : ¬ B) : A ↔ A ∨ B := ⟨.inl, fun o => o.elim id fun b => (h b).elim⟩

set_option maxHeartbeats 4000000 in
theorem walk_core (w0 w : World) (xss : List (List ByteArray)) (N : Nat) (t : Tre) (lb sb tb : Nat) (s0 s : ByteArray) (m : Int) (HB : Hid (Base w0 xss N t lb sb tb s0 m)) (p : List Seg) (b : Nat) (HP : Hid (t.at' p = some b))
    (v : Value) (l : List Nat) (HF : Hid (Found w0 w s0 N v l)) (hs : s.size ≤ 1048576)
    (SUB : Hid (∀ (a r : ByteArray) (f : Bool), CutIs s a r f → ∀ (w : World) (p' : List Seg) (c : Nat) (v : Value) (l : List Nat), t.at' p' = some c → Found w0 w s0 N v l → (∀ x, Hit xss N p' (if f then Tr.split (txt r) else []) x → x ∉ l) →
      Calls Try.prog 29 #[.pointer (some ⟨lb, 0, none⟩), v, .pointer (some ⟨c, 0, none⟩), .string r, .bool (!f)] w fun e w' => WalkEnd w0 w' s0 N l (Hit xss N p' (if f then Tr.split (txt r) else [])) e))
    (HN : Hid (∀ x, Hit xss N p (Tr.split (txt s)) x → x ∉ l)) :
    Calls Try.prog 29 #[.pointer (some ⟨lb, 0, none⟩), v, .pointer (some ⟨b, 0, none⟩), .string s, .bool false] w fun e w' => WalkEnd w0 w' s0 N l (Hit xss N p (Tr.split (txt s))) e := by
  have hm := HB.out.cellM HF.out.bel
  go_enter Try.func29, Try.ntmps29
  go_wp2_with fail
  refine (cut_any s m _ hs hm).mono ?_
  rintro e w1 ⟨a, r, f, q, rfl, hcut, rfl⟩
  obtain ⟨rs, HRS⟩ : ∃ rs, Hid ((if f then Tr.split (txt r) else []) = rs) := ⟨_, rfl⟩
  have SUB1 := Hid.mk' (SUB.out a r f hcut)
  rw [HRS.out] at SUB1
  have ha : a.size ≤ maxLen := by have := hcut.small.1; unfold maxLen; omega
  have HPT : Hid (Part xss N p a rs (Tr.split (txt s)) l) := by
    have h1 := HN.out
    rw [hcut.split, HRS.out] at h1 ⊢
    exact Part.mk' h1
  have HF0 := Hid.mk' (HF.out.dr q)
  have hlk := HB.out.lookup HF0.out.bel HP.out a ha
  obtain ⟨n0, n1, n2, _⟩ := HB.out.node HF0.out.bel HP.out
  clear hcut HF SUB HRS ha hm
  cases hA : t.at' (p ++ [.lit (txt a)]) with
  | none =>
    rw [hA] at hlk
    have HA := Hid.mk' hA
    clear hA
    cases hW : t.at' (p ++ [.wild]) with
    | none =>
      rw [hW] at n1
      have HW := Hid.mk' hW
      clear hW
      cases hD : t.at' (p ++ [.deep]) with
      | none =>
        rw [hD] at n2
        have HD := Hid.mk' hD
        clear hD
        have k0 : (Instr.lookup 49 (.map (t.mp p)) (.string a) false).run Try.prog (w.drewN q) = .ok ((.pointer none)) (w.drewN q) := hlk
        have k1 : (w.drewN q).cell? ⟨b, 1, none⟩ = some (.pointer none) := n1
        have k2 : (w.drewN q).cell? ⟨b, 2, none⟩ = some (.pointer none) := n2
        clear hlk n1 n2
        have HM1 : Hid (∀ x, x ∈ l ↔ x ∈ l ∨ PA xss N p a rs x) := fun x => or_stay (HB.out.no_hit HA.out _ _)
        have HM2 : Hid (∀ x, x ∈ l ↔ x ∈ l ∨ PW xss N p a rs x) := fun x => or_stay fun h => HB.out.no_hit HW.out _ _ h.2
        have HM3 : Hid (∀ x, x ∈ l ↔ x ∈ l ∨ PD xss N p x) := fun x => or_stay (HB.out.no_ends HD.out _)
        have HZ : Hid (∀ x, x ∈ l ↔ x ∈ l ∨ Hit xss N p (Tr.split (txt s)) x) := by
          intro x
          exact or_chain (HM1.out x) (HM2.out x) (HM3.out x) (HPT.out.hit x)
        go_wp2_with fail
        go_ret
        exact ⟨_, l, rfl, HF0.out, HZ.out⟩
      | some d =>
        rw [hD] at n2
        have HD := Hid.mk' hD
        clear hD
        have k0 : (Instr.lookup 49 (.map (t.mp p)) (.string a) false).run Try.prog (w.drewN q) = .ok ((.pointer none)) (w.drewN q) := hlk
        have k1 : (w.drewN q).cell? ⟨b, 1, none⟩ = some (.pointer none) := n1
        have k2 : (w.drewN q).cell? ⟨b, 2, none⟩ = some (.pointer (some ⟨d, 0, none⟩)) := n2
        clear hlk n1 n2
        have HM1 : Hid (∀ x, x ∈ l ↔ x ∈ l ∨ PA xss N p a rs x) := fun x => or_stay (HB.out.no_hit HA.out _ _)
        have HM2 : Hid (∀ x, x ∈ l ↔ x ∈ l ∨ PW xss N p a rs x) := fun x => or_stay fun h => HB.out.no_hit HW.out _ _ h.2
        have HND : Hid (∀ x, Ends xss N (p ++ [.deep]) x → x ∉ l) := by
          intro x hx hm
          have h0 := HPT.out.dd x hx
          exact ((HM2.out x).1 hm).elim (fun h => ((HM1.out x).1 h).elim h0.1 h0.2.1) h0.2.2
        go_wp2_with fail
        refine (done_leaf w0 _ xss N t lb sb tb s0 _ m HB (p ++ [Seg.deep]) d HD (Hid.mk' (HB.out.gr.dd p .deep)) _ l HF0 HND).mono ?_
        rintro e w4 ⟨v3, l3, rfl, hf3, hm3⟩
        have HF3 := Hid.mk' hf3
        have HM3 : Hid (∀ x, x ∈ l3 ↔ x ∈ l ∨ PD xss N p x) := hm3
        clear hf3 hm3
        have HZ : Hid (∀ x, x ∈ l3 ↔ x ∈ l ∨ Hit xss N p (Tr.split (txt s)) x) := by
          intro x
          exact or_chain (HM1.out x) (HM2.out x) (HM3.out x) (HPT.out.hit x)
        go_wp2_with fail
        go_ret
        exact ⟨_, l3, rfl, HF3.out, HZ.out⟩
    | some c2 =>
      rw [hW] at n1
      have HW := Hid.mk' hW
      clear hW
      cases hD : t.at' (p ++ [.deep]) with
      | none =>
        rw [hD] at n2
        have HD := Hid.mk' hD
        clear hD
        rcases hE : a.toList.isEmpty with _ | _
        · have HE := Hid.mk' hE
          have k0 : (Instr.lookup 49 (.map (t.mp p)) (.string a) false).run Try.prog (w.drewN q) = .ok ((.pointer none)) (w.drewN q) := hlk
          have k1 : (w.drewN q).cell? ⟨b, 1, none⟩ = some (.pointer (some ⟨c2, 0, none⟩)) := n1
          have k2 : (w.drewN q).cell? ⟨b, 2, none⟩ = some (.pointer none) := n2
          clear hlk n1 n2
          have HM1 : Hid (∀ x, x ∈ l ↔ x ∈ l ∨ PA xss N p a rs x) := fun x => or_stay (HB.out.no_hit HA.out _ _)
          have HNW : Hid (∀ x, Hit xss N (p ++ [.wild]) rs x → x ∉ l) := by
            intro x hx hm
            have h0 : PW xss N p a rs x := ⟨fun e => Bool.noConfusion ((empty_txt HE.out).1 e), hx⟩
            exact ((HM1.out x).1 hm).elim (HPT.out.dw x h0).1 (HPT.out.dw x h0).2
          go_wp2_with fail
          refine (SUB1.out _ (p ++ [Seg.wild]) c2 _ l HW.out HF0.out HNW.out).mono ?_
          rintro e w3 ⟨v2, l2, rfl, hf2, hm2⟩
          have HF2 := Hid.mk' hf2
          have HM2 : Hid (∀ x, x ∈ l2 ↔ x ∈ l ∨ PW xss N p a rs x) := by
            intro x
            rw [hm2]
            exact ⟨fun o => o.elim .inl fun h => .inr ⟨fun e => Bool.noConfusion ((empty_txt HE.out).1 e), h⟩, fun o => o.elim .inl fun h => .inr h.2⟩
          obtain ⟨_, m1, m2, _⟩ := HB.out.node hf2.bel HP.out
          rw [HW.out] at m1
          rw [HD.out] at m2
          have k1 : w3.cell? ⟨b, 1, none⟩ = some (.pointer (some ⟨c2, 0, none⟩)) := m1
          have k2 : w3.cell? ⟨b, 2, none⟩ = some (.pointer none) := m2
          clear m1 m2 hf2 hm2
          have HM3 : Hid (∀ x, x ∈ l2 ↔ x ∈ l2 ∨ PD xss N p x) := fun x => or_stay (HB.out.no_ends HD.out _)
          have HZ : Hid (∀ x, x ∈ l2 ↔ x ∈ l ∨ Hit xss N p (Tr.split (txt s)) x) := by
            intro x
            exact or_chain (HM1.out x) (HM2.out x) (HM3.out x) (HPT.out.hit x)
          go_wp2_with fail
          go_ret
          exact ⟨_, l2, rfl, HF2.out, HZ.out⟩
        · have HE := Hid.mk' hE
          have k0 : (Instr.lookup 49 (.map (t.mp p)) (.string a) false).run Try.prog (w.drewN q) = .ok ((.pointer none)) (w.drewN q) := hlk
          have k1 : (w.drewN q).cell? ⟨b, 1, none⟩ = some (.pointer (some ⟨c2, 0, none⟩)) := n1
          have k2 : (w.drewN q).cell? ⟨b, 2, none⟩ = some (.pointer none) := n2
          clear hlk n1 n2
          have HM1 : Hid (∀ x, x ∈ l ↔ x ∈ l ∨ PA xss N p a rs x) := fun x => or_stay (HB.out.no_hit HA.out _ _)
          have HM2 : Hid (∀ x, x ∈ l ↔ x ∈ l ∨ PW xss N p a rs x) := fun x => or_stay fun h => h.1 ((empty_txt HE.out).2 rfl)
          have HM3 : Hid (∀ x, x ∈ l ↔ x ∈ l ∨ PD xss N p x) := fun x => or_stay (HB.out.no_ends HD.out _)
          have HZ : Hid (∀ x, x ∈ l ↔ x ∈ l ∨ Hit xss N p (Tr.split (txt s)) x) := by
            intro x
            exact or_chain (HM1.out x) (HM2.out x) (HM3.out x) (HPT.out.hit x)
          go_wp2_with fail
          go_ret
          exact ⟨_, l, rfl, HF0.out, HZ.out⟩
      | some d =>
        rw [hD] at n2
        have HD := Hid.mk' hD
        clear hD
        rcases hE : a.toList.isEmpty with _ | _
        · have HE := Hid.mk' hE
          have k0 : (Instr.lookup 49 (.map (t.mp p)) (.string a) false).run Try.prog (w.drewN q) = .ok ((.pointer none)) (w.drewN q) := hlk
          have k1 : (w.drewN q).cell? ⟨b, 1, none⟩ = some (.pointer (some ⟨c2, 0, none⟩)) := n1
          have k2 : (w.drewN q).cell? ⟨b, 2, none⟩ = some (.pointer (some ⟨d, 0, none⟩)) := n2
          clear hlk n1 n2
          have HM1 : Hid (∀ x, x ∈ l ↔ x ∈ l ∨ PA xss N p a rs x) := fun x => or_stay (HB.out.no_hit HA.out _ _)
          have HNW : Hid (∀ x, Hit xss N (p ++ [.wild]) rs x → x ∉ l) := by
            intro x hx hm
            have h0 : PW xss N p a rs x := ⟨fun e => Bool.noConfusion ((empty_txt HE.out).1 e), hx⟩
            exact ((HM1.out x).1 hm).elim (HPT.out.dw x h0).1 (HPT.out.dw x h0).2
          go_wp2_with fail
          refine (SUB1.out _ (p ++ [Seg.wild]) c2 _ l HW.out HF0.out HNW.out).mono ?_
          rintro e w3 ⟨v2, l2, rfl, hf2, hm2⟩
          have HF2 := Hid.mk' hf2
          have HM2 : Hid (∀ x, x ∈ l2 ↔ x ∈ l ∨ PW xss N p a rs x) := by
            intro x
            rw [hm2]
            exact ⟨fun o => o.elim .inl fun h => .inr ⟨fun e => Bool.noConfusion ((empty_txt HE.out).1 e), h⟩, fun o => o.elim .inl fun h => .inr h.2⟩
          obtain ⟨_, m1, m2, _⟩ := HB.out.node hf2.bel HP.out
          rw [HW.out] at m1
          rw [HD.out] at m2
          have k1 : w3.cell? ⟨b, 1, none⟩ = some (.pointer (some ⟨c2, 0, none⟩)) := m1
          have k2 : w3.cell? ⟨b, 2, none⟩ = some (.pointer (some ⟨d, 0, none⟩)) := m2
          clear m1 m2 hf2 hm2
          have HND : Hid (∀ x, Ends xss N (p ++ [.deep]) x → x ∉ l2) := by
            intro x hx hm
            have h0 := HPT.out.dd x hx
            exact ((HM2.out x).1 hm).elim (fun h => ((HM1.out x).1 h).elim h0.1 h0.2.1) h0.2.2
          go_wp2_with fail
          refine (done_leaf w0 _ xss N t lb sb tb s0 _ m HB (p ++ [Seg.deep]) d HD (Hid.mk' (HB.out.gr.dd p .deep)) _ l2 HF2 HND).mono ?_
          rintro e w4 ⟨v3, l3, rfl, hf3, hm3⟩
          have HF3 := Hid.mk' hf3
          have HM3 : Hid (∀ x, x ∈ l3 ↔ x ∈ l2 ∨ PD xss N p x) := hm3
          clear hf3 hm3
          have HZ : Hid (∀ x, x ∈ l3 ↔ x ∈ l ∨ Hit xss N p (Tr.split (txt s)) x) := by
            intro x
            exact or_chain (HM1.out x) (HM2.out x) (HM3.out x) (HPT.out.hit x)
          go_wp2_with fail
          go_ret
          exact ⟨_, l3, rfl, HF3.out, HZ.out⟩
        · have HE := Hid.mk' hE
          have k0 : (Instr.lookup 49 (.map (t.mp p)) (.string a) false).run Try.prog (w.drewN q) = .ok ((.pointer none)) (w.drewN q) := hlk
          have k1 : (w.drewN q).cell? ⟨b, 1, none⟩ = some (.pointer (some ⟨c2, 0, none⟩)) := n1
          have k2 : (w.drewN q).cell? ⟨b, 2, none⟩ = some (.pointer (some ⟨d, 0, none⟩)) := n2
          clear hlk n1 n2
          have HM1 : Hid (∀ x, x ∈ l ↔ x ∈ l ∨ PA xss N p a rs x) := fun x => or_stay (HB.out.no_hit HA.out _ _)
          have HM2 : Hid (∀ x, x ∈ l ↔ x ∈ l ∨ PW xss N p a rs x) := fun x => or_stay fun h => h.1 ((empty_txt HE.out).2 rfl)
          have HND : Hid (∀ x, Ends xss N (p ++ [.deep]) x → x ∉ l) := by
            intro x hx hm
            have h0 := HPT.out.dd x hx
            exact ((HM2.out x).1 hm).elim (fun h => ((HM1.out x).1 h).elim h0.1 h0.2.1) h0.2.2
          go_wp2_with fail
          refine (done_leaf w0 _ xss N t lb sb tb s0 _ m HB (p ++ [Seg.deep]) d HD (Hid.mk' (HB.out.gr.dd p .deep)) _ l HF0 HND).mono ?_
          rintro e w4 ⟨v3, l3, rfl, hf3, hm3⟩
          have HF3 := Hid.mk' hf3
          have HM3 : Hid (∀ x, x ∈ l3 ↔ x ∈ l ∨ PD xss N p x) := hm3
          clear hf3 hm3
          have HZ : Hid (∀ x, x ∈ l3 ↔ x ∈ l ∨ Hit xss N p (Tr.split (txt s)) x) := by
            intro x
            exact or_chain (HM1.out x) (HM2.out x) (HM3.out x) (HPT.out.hit x)
          go_wp2_with fail
          go_ret
          exact ⟨_, l3, rfl, HF3.out, HZ.out⟩
  | some c1 =>
    rw [hA] at hlk
    have HA := Hid.mk' hA
    clear hA
    cases hW : t.at' (p ++ [.wild]) with
    | none =>
      rw [hW] at n1
      have HW := Hid.mk' hW
      clear hW
      cases hD : t.at' (p ++ [.deep]) with
      | none =>
        rw [hD] at n2
        have HD := Hid.mk' hD
        clear hD
        have k0 : (Instr.lookup 49 (.map (t.mp p)) (.string a) false).run Try.prog (w.drewN q) = .ok ((.pointer (some ⟨c1, 0, none⟩))) (w.drewN q) := hlk
        have k1 : (w.drewN q).cell? ⟨b, 1, none⟩ = some (.pointer none) := n1
        have k2 : (w.drewN q).cell? ⟨b, 2, none⟩ = some (.pointer none) := n2
        clear hlk n1 n2
        go_wp2_with fail
        refine (SUB1.out _ (p ++ [Seg.lit (txt a)]) c1 _ l HA.out HF0.out HPT.out.da).mono ?_
        rintro e w2 ⟨v1, l1, rfl, hf1, hm1⟩
        have HF1 := Hid.mk' hf1
        have HM1 : Hid (∀ x, x ∈ l1 ↔ x ∈ l ∨ PA xss N p a rs x) := hm1
        obtain ⟨_, m1, m2, _⟩ := HB.out.node hf1.bel HP.out
        rw [HW.out] at m1
        rw [HD.out] at m2
        have k1 : w2.cell? ⟨b, 1, none⟩ = some (.pointer none) := m1
        have k2 : w2.cell? ⟨b, 2, none⟩ = some (.pointer none) := m2
        clear m1 m2 hf1 hm1
        have HM2 : Hid (∀ x, x ∈ l1 ↔ x ∈ l1 ∨ PW xss N p a rs x) := fun x => or_stay fun h => HB.out.no_hit HW.out _ _ h.2
        have HM3 : Hid (∀ x, x ∈ l1 ↔ x ∈ l1 ∨ PD xss N p x) := fun x => or_stay (HB.out.no_ends HD.out _)
        have HZ : Hid (∀ x, x ∈ l1 ↔ x ∈ l ∨ Hit xss N p (Tr.split (txt s)) x) := by
          intro x
          exact or_chain (HM1.out x) (HM2.out x) (HM3.out x) (HPT.out.hit x)
        go_wp2_with fail
        go_ret
        exact ⟨_, l1, rfl, HF1.out, HZ.out⟩
      | some d =>
        rw [hD] at n2
        have HD := Hid.mk' hD
        clear hD
        have k0 : (Instr.lookup 49 (.map (t.mp p)) (.string a) false).run Try.prog (w.drewN q) = .ok ((.pointer (some ⟨c1, 0, none⟩))) (w.drewN q) := hlk
        have k1 : (w.drewN q).cell? ⟨b, 1, none⟩ = some (.pointer none) := n1
        have k2 : (w.drewN q).cell? ⟨b, 2, none⟩ = some (.pointer (some ⟨d, 0, none⟩)) := n2
        clear hlk n1 n2
        go_wp2_with fail
        refine (SUB1.out _ (p ++ [Seg.lit (txt a)]) c1 _ l HA.out HF0.out HPT.out.da).mono ?_
        rintro e w2 ⟨v1, l1, rfl, hf1, hm1⟩
        have HF1 := Hid.mk' hf1
        have HM1 : Hid (∀ x, x ∈ l1 ↔ x ∈ l ∨ PA xss N p a rs x) := hm1
        obtain ⟨_, m1, m2, _⟩ := HB.out.node hf1.bel HP.out
        rw [HW.out] at m1
        rw [HD.out] at m2
        have k1 : w2.cell? ⟨b, 1, none⟩ = some (.pointer none) := m1
        have k2 : w2.cell? ⟨b, 2, none⟩ = some (.pointer (some ⟨d, 0, none⟩)) := m2
        clear m1 m2 hf1 hm1
        have HM2 : Hid (∀ x, x ∈ l1 ↔ x ∈ l1 ∨ PW xss N p a rs x) := fun x => or_stay fun h => HB.out.no_hit HW.out _ _ h.2
        have HND : Hid (∀ x, Ends xss N (p ++ [.deep]) x → x ∉ l1) := by
          intro x hx hm
          have h0 := HPT.out.dd x hx
          exact ((HM2.out x).1 hm).elim (fun h => ((HM1.out x).1 h).elim h0.1 h0.2.1) h0.2.2
        go_wp2_with fail
        refine (done_leaf w0 _ xss N t lb sb tb s0 _ m HB (p ++ [Seg.deep]) d HD (Hid.mk' (HB.out.gr.dd p .deep)) _ l1 HF1 HND).mono ?_
        rintro e w4 ⟨v3, l3, rfl, hf3, hm3⟩
        have HF3 := Hid.mk' hf3
        have HM3 : Hid (∀ x, x ∈ l3 ↔ x ∈ l1 ∨ PD xss N p x) := hm3
        clear hf3 hm3
        have HZ : Hid (∀ x, x ∈ l3 ↔ x ∈ l ∨ Hit xss N p (Tr.split (txt s)) x) := by
          intro x
          exact or_chain (HM1.out x) (HM2.out x) (HM3.out x) (HPT.out.hit x)
        go_wp2_with fail
        go_ret
        exact ⟨_, l3, rfl, HF3.out, HZ.out⟩
    | some c2 =>
      rw [hW] at n1
      have HW := Hid.mk' hW
      clear hW
      cases hD : t.at' (p ++ [.deep]) with
      | none =>
        rw [hD] at n2
        have HD := Hid.mk' hD
        clear hD
        rcases hE : a.toList.isEmpty with _ | _
        · have HE := Hid.mk' hE
          have k0 : (Instr.lookup 49 (.map (t.mp p)) (.string a) false).run Try.prog (w.drewN q) = .ok ((.pointer (some ⟨c1, 0, none⟩))) (w.drewN q) := hlk
          have k1 : (w.drewN q).cell? ⟨b, 1, none⟩ = some (.pointer (some ⟨c2, 0, none⟩)) := n1
          have k2 : (w.drewN q).cell? ⟨b, 2, none⟩ = some (.pointer none) := n2
          clear hlk n1 n2
          go_wp2_with fail
          refine (SUB1.out _ (p ++ [Seg.lit (txt a)]) c1 _ l HA.out HF0.out HPT.out.da).mono ?_
          rintro e w2 ⟨v1, l1, rfl, hf1, hm1⟩
          have HF1 := Hid.mk' hf1
          have HM1 : Hid (∀ x, x ∈ l1 ↔ x ∈ l ∨ PA xss N p a rs x) := hm1
          obtain ⟨_, m1, m2, _⟩ := HB.out.node hf1.bel HP.out
          rw [HW.out] at m1
          rw [HD.out] at m2
          have k1 : w2.cell? ⟨b, 1, none⟩ = some (.pointer (some ⟨c2, 0, none⟩)) := m1
          have k2 : w2.cell? ⟨b, 2, none⟩ = some (.pointer none) := m2
          clear m1 m2 hf1 hm1
          have HNW : Hid (∀ x, Hit xss N (p ++ [.wild]) rs x → x ∉ l1) := by
            intro x hx hm
            have h0 : PW xss N p a rs x := ⟨fun e => Bool.noConfusion ((empty_txt HE.out).1 e), hx⟩
            exact ((HM1.out x).1 hm).elim (HPT.out.dw x h0).1 (HPT.out.dw x h0).2
          go_wp2_with fail
          refine (SUB1.out _ (p ++ [Seg.wild]) c2 _ l1 HW.out HF1.out HNW.out).mono ?_
          rintro e w3 ⟨v2, l2, rfl, hf2, hm2⟩
          have HF2 := Hid.mk' hf2
          have HM2 : Hid (∀ x, x ∈ l2 ↔ x ∈ l1 ∨ PW xss N p a rs x) := by
            intro x
            rw [hm2]
            exact ⟨fun o => o.elim .inl fun h => .inr ⟨fun e => Bool.noConfusion ((empty_txt HE.out).1 e), h⟩, fun o => o.elim .inl fun h => .inr h.2⟩
          obtain ⟨_, m1, m2, _⟩ := HB.out.node hf2.bel HP.out
          rw [HW.out] at m1
          rw [HD.out] at m2
          have k1 : w3.cell? ⟨b, 1, none⟩ = some (.pointer (some ⟨c2, 0, none⟩)) := m1
          have k2 : w3.cell? ⟨b, 2, none⟩ = some (.pointer none) := m2
          clear m1 m2 hf2 hm2
          have HM3 : Hid (∀ x, x ∈ l2 ↔ x ∈ l2 ∨ PD xss N p x) := fun x => or_stay (HB.out.no_ends HD.out _)
          have HZ : Hid (∀ x, x ∈ l2 ↔ x ∈ l ∨ Hit xss N p (Tr.split (txt s)) x) := by
            intro x
            exact or_chain (HM1.out x) (HM2.out x) (HM3.out x) (HPT.out.hit x)
          go_wp2_with fail
          go_ret
          exact ⟨_, l2, rfl, HF2.out, HZ.out⟩
        · have HE := Hid.mk' hE
          have k0 : (Instr.lookup 49 (.map (t.mp p)) (.string a) false).run Try.prog (w.drewN q) = .ok ((.pointer (some ⟨c1, 0, none⟩))) (w.drewN q) := hlk
          have k1 : (w.drewN q).cell? ⟨b, 1, none⟩ = some (.pointer (some ⟨c2, 0, none⟩)) := n1
          have k2 : (w.drewN q).cell? ⟨b, 2, none⟩ = some (.pointer none) := n2
          clear hlk n1 n2
          go_wp2_with fail
          refine (SUB1.out _ (p ++ [Seg.lit (txt a)]) c1 _ l HA.out HF0.out HPT.out.da).mono ?_
          rintro e w2 ⟨v1, l1, rfl, hf1, hm1⟩
          have HF1 := Hid.mk' hf1
          have HM1 : Hid (∀ x, x ∈ l1 ↔ x ∈ l ∨ PA xss N p a rs x) := hm1
          obtain ⟨_, m1, m2, _⟩ := HB.out.node hf1.bel HP.out
          rw [HW.out] at m1
          rw [HD.out] at m2
          have k1 : w2.cell? ⟨b, 1, none⟩ = some (.pointer (some ⟨c2, 0, none⟩)) := m1
          have k2 : w2.cell? ⟨b, 2, none⟩ = some (.pointer none) := m2
          clear m1 m2 hf1 hm1
          have HM2 : Hid (∀ x, x ∈ l1 ↔ x ∈ l1 ∨ PW xss N p a rs x) := fun x => or_stay fun h => h.1 ((empty_txt HE.out).2 rfl)
          have HM3 : Hid (∀ x, x ∈ l1 ↔ x ∈ l1 ∨ PD xss N p x) := fun x => or_stay (HB.out.no_ends HD.out _)
          have HZ : Hid (∀ x, x ∈ l1 ↔ x ∈ l ∨ Hit xss N p (Tr.split (txt s)) x) := by
            intro x
            exact or_chain (HM1.out x) (HM2.out x) (HM3.out x) (HPT.out.hit x)
          go_wp2_with fail
          go_ret
          exact ⟨_, l1, rfl, HF1.out, HZ.out⟩
      | some d =>
        rw [hD] at n2
        have HD := Hid.mk' hD
        clear hD
        rcases hE : a.toList.isEmpty with _ | _
        · have HE := Hid.mk' hE
          have k0 : (Instr.lookup 49 (.map (t.mp p)) (.string a) false).run Try.prog (w.drewN q) = .ok ((.pointer (some ⟨c1, 0, none⟩))) (w.drewN q) := hlk
          have k1 : (w.drewN q).cell? ⟨b, 1, none⟩ = some (.pointer (some ⟨c2, 0, none⟩)) := n1
          have k2 : (w.drewN q).cell? ⟨b, 2, none⟩ = some (.pointer (some ⟨d, 0, none⟩)) := n2
          clear hlk n1 n2
          go_wp2_with fail
          refine (SUB1.out _ (p ++ [Seg.lit (txt a)]) c1 _ l HA.out HF0.out HPT.out.da).mono ?_
          rintro e w2 ⟨v1, l1, rfl, hf1, hm1⟩
          have HF1 := Hid.mk' hf1
          have HM1 : Hid (∀ x, x ∈ l1 ↔ x ∈ l ∨ PA xss N p a rs x) := hm1
          obtain ⟨_, m1, m2, _⟩ := HB.out.node hf1.bel HP.out
          rw [HW.out] at m1
          rw [HD.out] at m2
          have k1 : w2.cell? ⟨b, 1, none⟩ = some (.pointer (some ⟨c2, 0, none⟩)) := m1
          have k2 : w2.cell? ⟨b, 2, none⟩ = some (.pointer (some ⟨d, 0, none⟩)) := m2
          clear m1 m2 hf1 hm1
          have HNW : Hid (∀ x, Hit xss N (p ++ [.wild]) rs x → x ∉ l1) := by
            intro x hx hm
            have h0 : PW xss N p a rs x := ⟨fun e => Bool.noConfusion ((empty_txt HE.out).1 e), hx⟩
            exact ((HM1.out x).1 hm).elim (HPT.out.dw x h0).1 (HPT.out.dw x h0).2
          go_wp2_with fail
          refine (SUB1.out _ (p ++ [Seg.wild]) c2 _ l1 HW.out HF1.out HNW.out).mono ?_
          rintro e w3 ⟨v2, l2, rfl, hf2, hm2⟩
          have HF2 := Hid.mk' hf2
          have HM2 : Hid (∀ x, x ∈ l2 ↔ x ∈ l1 ∨ PW xss N p a rs x) := by
            intro x
            rw [hm2]
            exact ⟨fun o => o.elim .inl fun h => .inr ⟨fun e => Bool.noConfusion ((empty_txt HE.out).1 e), h⟩, fun o => o.elim .inl fun h => .inr h.2⟩
          obtain ⟨_, m1, m2, _⟩ := HB.out.node hf2.bel HP.out
          rw [HW.out] at m1
          rw [HD.out] at m2
          have k1 : w3.cell? ⟨b, 1, none⟩ = some (.pointer (some ⟨c2, 0, none⟩)) := m1
          have k2 : w3.cell? ⟨b, 2, none⟩ = some (.pointer (some ⟨d, 0, none⟩)) := m2
          clear m1 m2 hf2 hm2
          have HND : Hid (∀ x, Ends xss N (p ++ [.deep]) x → x ∉ l2) := by
            intro x hx hm
            have h0 := HPT.out.dd x hx
            exact ((HM2.out x).1 hm).elim (fun h => ((HM1.out x).1 h).elim h0.1 h0.2.1) h0.2.2
          go_wp2_with fail
          refine (done_leaf w0 _ xss N t lb sb tb s0 _ m HB (p ++ [Seg.deep]) d HD (Hid.mk' (HB.out.gr.dd p .deep)) _ l2 HF2 HND).mono ?_
          rintro e w4 ⟨v3, l3, rfl, hf3, hm3⟩
          have HF3 := Hid.mk' hf3
          have HM3 : Hid (∀ x, x ∈ l3 ↔ x ∈ l2 ∨ PD xss N p x) := hm3
          clear hf3 hm3
          have HZ : Hid (∀ x, x ∈ l3 ↔ x ∈ l ∨ Hit xss N p (Tr.split (txt s)) x) := by
            intro x
            exact or_chain (HM1.out x) (HM2.out x) (HM3.out x) (HPT.out.hit x)
          go_wp2_with fail
          go_ret
          exact ⟨_, l3, rfl, HF3.out, HZ.out⟩
        · have HE := Hid.mk' hE
          have k0 : (Instr.lookup 49 (.map (t.mp p)) (.string a) false).run Try.prog (w.drewN q) = .ok ((.pointer (some ⟨c1, 0, none⟩))) (w.drewN q) := hlk
          have k1 : (w.drewN q).cell? ⟨b, 1, none⟩ = some (.pointer (some ⟨c2, 0, none⟩)) := n1
          have k2 : (w.drewN q).cell? ⟨b, 2, none⟩ = some (.pointer (some ⟨d, 0, none⟩)) := n2
          clear hlk n1 n2
          go_wp2_with fail
          refine (SUB1.out _ (p ++ [Seg.lit (txt a)]) c1 _ l HA.out HF0.out HPT.out.da).mono ?_
          rintro e w2 ⟨v1, l1, rfl, hf1, hm1⟩
          have HF1 := Hid.mk' hf1
          have HM1 : Hid (∀ x, x ∈ l1 ↔ x ∈ l ∨ PA xss N p a rs x) := hm1
          obtain ⟨_, m1, m2, _⟩ := HB.out.node hf1.bel HP.out
          rw [HW.out] at m1
          rw [HD.out] at m2
          have k1 : w2.cell? ⟨b, 1, none⟩ = some (.pointer (some ⟨c2, 0, none⟩)) := m1
          have k2 : w2.cell? ⟨b, 2, none⟩ = some (.pointer (some ⟨d, 0, none⟩)) := m2
          clear m1 m2 hf1 hm1
          have HM2 : Hid (∀ x, x ∈ l1 ↔ x ∈ l1 ∨ PW xss N p a rs x) := fun x => or_stay fun h => h.1 ((empty_txt HE.out).2 rfl)
          have HND : Hid (∀ x, Ends xss N (p ++ [.deep]) x → x ∉ l1) := by
            intro x hx hm
            have h0 := HPT.out.dd x hx
            exact ((HM2.out x).1 hm).elim (fun h => ((HM1.out x).1 h).elim h0.1 h0.2.1) h0.2.2
          go_wp2_with fail
          refine (done_leaf w0 _ xss N t lb sb tb s0 _ m HB (p ++ [Seg.deep]) d HD (Hid.mk' (HB.out.gr.dd p .deep)) _ l1 HF1 HND).mono ?_
          rintro e w4 ⟨v3, l3, rfl, hf3, hm3⟩
          have HF3 := Hid.mk' hf3
          have HM3 : Hid (∀ x, x ∈ l3 ↔ x ∈ l1 ∨ PD xss N p x) := hm3
          clear hf3 hm3
          have HZ : Hid (∀ x, x ∈ l3 ↔ x ∈ l ∨ Hit xss N p (Tr.split (txt s)) x) := by
            intro x
            exact or_chain (HM1.out x) (HM2.out x) (HM3.out x) (HPT.out.hit x)
          go_wp2_with fail
          go_ret
          exact ⟨_, l3, rfl, HF3.out, HZ.out⟩

/-- lookup.walk, whole. -/
theorem walk_any (w0 : World) (xss : List (List ByteArray)) (N : Nat) (t : Tre) (lb sb tb : Nat) (s0 : ByteArray) (m : Int) (hB : Base w0 xss N t lb sb tb s0 m) : ∀ (n : Nat) (w : World) (s : ByteArray) (p : List Seg) (b : Nat) (v : Value) (l : List Nat),
    s.size ≤ n → n ≤ 1048576 → t.at' p = some b → Found w0 w s0 N v l → (∀ x, Hit xss N p (Tr.split (txt s)) x → x ∉ l) →
    Calls Try.prog 29 #[.pointer (some ⟨lb, 0, none⟩), v, .pointer (some ⟨b, 0, none⟩), .string s, .bool false] w fun e w' => WalkEnd w0 w' s0 N l (Hit xss N p (Tr.split (txt s))) e := by
  intro n
  induction n with
  | zero =>
    intro w s p b v l hs hn hp hf hh
    refine walk_core w0 w xss N t lb sb tb s0 s m hB p b hp v l hf (by omega) ?_ hh
    intro a r f hc w p' c v l hp' hf' hh'
    have := hc.small.2
    cases f with
    | true => have := this rfl; omega
    | false => exact done_any w0 w xss N t lb sb tb s0 r m hB p' c hp' v l hf' hh'
  | succ n ih =>
    intro w s p b v l hs hn hp hf hh
    refine walk_core w0 w xss N t lb sb tb s0 s m hB p b hp v l hf (by omega) ?_ hh
    intro a r f hc w p' c v l hp' hf' hh'
    have := hc.small.2
    cases f with
    | true => exact ih w r p' c v l (by have := this rfl; omega) (by omega) hp' hf' hh'
    | false => exact done_any w0 w xss N t lb sb tb s0 r m hB p' c hp' v l hf' hh'

end Go.Proofs.Qxb6600448a.Tr
