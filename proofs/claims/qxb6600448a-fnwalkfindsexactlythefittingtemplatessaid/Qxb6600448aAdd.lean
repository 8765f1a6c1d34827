/- Seat b6600448a: lookup.add. -/
import Derived.Test.Qxb6600448aWtree
import Derived.Deep.RegionLaw
import Derived.Deep.DeepCutAuto
namespace Go.Proofs.Qxb6600448a.Tr
open Go.RowKit
set_option linter.unusedVariables false

theorem info65 : (Try.prog.info? 65).map (fun i => (i.zero, i.size, i.bytes)) = some (some (.agg #[.int .i64 0, .pointer none, .string ⟨#[]⟩]), 3, 32) := by kernel_rfl

def mflat (s : ByteArray) (l : List Nat) : List Value := l.flatMap fun x => [.int .i64 (x : Nat), .pointer none, .string s]
theorem mflat_length (s : ByteArray) : ∀ l, (mflat s l).length = l.length * 3
  | [] => rfl
  | x :: l => by
    have := mflat_length s l
    unfold mflat at this ⊢
    simp only [List.flatMap_cons, List.length_append, this, List.length_cons, List.length_nil]
    omega
theorem mflat_append (s : ByteArray) (l m : List Nat) : mflat s (l ++ m) = mflat s l ++ mflat s m := List.flatMap_append
theorem mflat_split (s : ByteArray) {l : List Nat} {k x : Nat} (h : l[k]? = some x) : mflat s l = mflat s (l.take k) ++ [.int .i64 (x : Nat), .pointer none, .string s] ++ mflat s (l.drop (k + 1)) := by
  obtain ⟨hk, rfl⟩ := List.getElem?_eq_some_iff.1 h
  have e : l = l.take k ++ l[k] :: l.drop (k + 1) := by rw [← List.drop_eq_getElem_cons hk, List.take_append_drop]
  have e2 : mflat s l = mflat s (l.take k ++ l[k] :: l.drop (k + 1)) := congrArg _ e
  rw [e2, mflat_append, List.append_assoc]
  rfl
theorem mflat_at (s : ByteArray) {l : List Nat} {k x : Nat} (h : l[k]? = some x) : (mflat s l)[k * 3]? = some (.int .i64 (x : Nat)) ∧ (mflat s l)[k * 3 + 1]? = some (.pointer none) ∧ (mflat s l)[k * 3 + 2]? = some (.string s) := by
  have hk := (List.getElem?_eq_some_iff.1 h).1
  have hl : (mflat s (l.take k)).length = k * 3 := by rw [mflat_length, List.length_take, Nat.min_eq_left (by omega)]
  rw [mflat_split s h, List.append_assoc, ← hl]
  refine ⟨?_, ?_, ?_⟩ <;> simp

/-- the lookup in memory. -/
structure Look (w : World) (lb sb tb : Nat) (s : ByteArray) (N : Nat) : Prop where
  c0 : w.cell? ⟨lb, 0, none⟩ = some (.pointer (some ⟨sb, 0, none⟩))
  c1 : w.cell? ⟨lb, 1, none⟩ = some (.string s)
  c2 : w.cell? ⟨lb, 2, none⟩ = some (.int .i64 0)
  d0 : w.cell? ⟨sb, 0, none⟩ = some (.slice (some ⟨tb, 0, none⟩) N N)
  e0 : ∀ k, k < N → w.cell? ⟨tb, k, none⟩ = some (.pointer none)
theorem Look.later {w w' : World} {lb sb tb N : Nat} {s : ByteArray} (h : Look w lb sb tb s N) (hb : Below w.heap.size w w') : Look w' lb sb tb s N := by
  have k : ∀ a v, w.cell? a = some v → w'.cell? a = some v := fun a v ha => by rw [hb.cell (p := a) (World.block_lt_of_cell? w a ha)]; exact ha
  exact ⟨k _ _ h.c0, k _ _ h.c1, k _ _ h.c2, k _ _ h.d0, fun i hi => k _ _ (h.e0 i hi)⟩

/-- what was found: l. -/
structure Found (w0 w : World) (s : ByteArray) (N : Nat) (v : Value) (l : List Nat) : Prop where
  own : w.ownsRow w0.heap.size 65 3 v l.length (mflat s l)
  up : Up l
  lt : ∀ x ∈ l, x < N
  bel : Below w0.heap.size w0 w

theorem up_len {l : List Nat} {N : Nat} (h : Up l) (hl : ∀ x ∈ l, x < N) : l.length ≤ N := by
  have e : l = (List.range N).filter (fun x => decide (x ∈ l)) := up_ext _ _ h (up_range _ _) fun x => by
    simp only [List.mem_filter, List.mem_range, decide_eq_true_eq]
    exact ⟨fun hx => ⟨hl x hx, hx⟩, fun hx => hx.2⟩
  have := List.length_filter_le (fun x => decide (x ∈ l)) (List.range N)
  rw [← e] at this
  simpa using this

theorem step_append_own {P : Program} {ops : Array Oper} {o : Oper} {a : Act} {w : World} {K : Act → World → Prop} {Q : Exit → Act → World → Prop} {E : Prop}
    (hg : o.guard = none) (s x : Operand) (t : TypeId) (ho : o.op = Op.call { callee := Callee.builtin Builtin.append, args := #[s, x], argTypes := #[t, t] })
    (base : Nat) (e : TypeId) (i : TypeInfo) (z : Value) (size bytes : Nat) (ht : P.underlying t = some (.slice e)) (hi : P.info? e = some i) (hz : i.zero = some z)
    (hsize : i.size = size) (hby : i.bytes = bytes) (hzs : z.cells.size = size) (hsz : 0 < size)
    (v : Value) (n : Nat) (xs : List Value) (hs : a.eval s = v) (hown : w.ownsRow base e size v n xs)
    (ad : Addr) (m c : Nat) (news : List Value) (hx : a.eval x = .slice (some ad) m c) (hl : news.length = m * size) (hnews : ∀ j u, news[j]? = some u → w.cell? (ad.add j) = some u) (h1 : ∀ u ∈ news, u.oneCell' = true)
    (h63 : n + m ≤ maxLen) (hbytes : (n + m) * bytes ≤ 140737488355328) (hbase : base ≤ w.heap.size)
    (h : ∀ v' w', w'.ownsRow base e size v' (n + m) (xs ++ news) → w.grownBy w' v.ownBlock → K (a.put o.dst v') w') :
    if Region.wanted o (yielded ops a.tmps) = true then Oper.wp P o a w K Q else E := by
  have hw : Region.wanted o (yielded ops a.tmps) = true := by simp [Region.wanted, hg]
  rw [if_pos hw]
  exact wp_append_own w s x t ho base e i z size bytes ht hi hz hsize hby hzs hsz v n xs hs hown ad m c news hx hl hnews h1 h63 hbytes hbase (fun v' w' a b _ => h v' w' a b)

theorem cell_three_new (w : World) (a b c : Value) (t : TypeId) : ∀ j u, [a, b, c][j]? = some u → (w.alloc (.cells #[a, b, c] t)).cell? ((⟨w.heap.size, 0, none⟩ : Addr).add j) = some u := by
  intro j u hj
  match j, hj with
  | 0, hj => simp at hj; subst hj; simp [Addr.add]
  | 1, hj => simp at hj; subst hj; simp [Addr.add]
  | 2, hj => simp at hj; subst hj; simp [Addr.add]
  | j + 3, hj => simp at hj
theorem three_cells (i : Nat) (s : ByteArray) : ∀ u ∈ [Value.int .i64 (i : Nat), .pointer none, .string s], u.oneCell' = true := by
  intro u hu
  simp only [List.mem_cons, List.not_mem_nil, or_false] at hu
  rcases hu with rfl | rfl | rfl <;> rfl

def AddEnd (w0 w' : World) (s : ByteArray) (N i : Nat) (l : List Nat) (e : Ending) : Prop := ∃ v' l', e = .returned v' ∧ Found w0 w' s N v' l' ∧ ∀ x, x ∈ l' ↔ x = i ∨ x ∈ l
/-- in the midst of add: i lies at j. -/
structure Sink (w0 w : World) (s : ByteArray) (g c i j : Nat) (l : List Nat) : Prop where
  own : w.ownsRow w0.heap.size 65 3 (.slice (some ⟨g, 0, none⟩) (l.length + 1) c) (l.length + 1) (mflat s (l.take j ++ i :: l.drop j))
  bel : Below w0.heap.size w0 w
  past : ∀ x ∈ l.drop j, i < x

theorem own_succ {W : World} {base e size k : Nat} {v : Value} {xs : List Value} (h : W.ownsRow base e size v (k + 1) xs) : ∃ g cap, v = .slice (some ⟨g, 0, none⟩) (k + 1) cap := by
  rcases h.2 with ⟨_, h2⟩ | ⟨g, cap, cur, h1, _⟩
  · omega
  · exact ⟨g, cap, h1⟩
theorem first_sink {w0 w w3 : World} {s : ByteArray} {N n c i : Nat} {p : Option Addr} {l : List Nat} {o : Obj} {v1 : Value} (hf : Found w0 w s N (.slice p n c) l) (hl : l.length = n)
    (ho : w3.ownsRow w0.heap.size 65 3 v1 (n + 1) (mflat s l ++ [.int .i64 (i : Nat), .pointer none, .string s])) (hg : (w.drew.alloc o).grownBy w3 (Value.slice p n c).ownBlock) :
    ∃ g cc, v1 = .slice (some ⟨g, 0, none⟩) (n + 1) cc ∧ Hid (Sink w0 w3 s g cc i n l) := by
  obtain ⟨g, cc, rfl⟩ := own_succ ho
  refine ⟨g, cc, rfl, ?_, ?_, ?_⟩
  · rw [hl, List.take_of_length_le (by omega), List.drop_of_length_le (by omega), mflat_append]
    exact ho
  · exact (hf.bel.drew.alloc hf.bel.size _).grown hg (le_alloc (w := w.drew) hf.bel.size _) (fun k hk => (hf.own.lt k hk).1)
  · rw [List.drop_of_length_le (by omega)]
    intro x hx; cases hx

theorem two_split {A C : List Nat} {a b : Nat} (s : ByteArray) : mflat s (A ++ a :: b :: C) = mflat s A ++ [.int .i64 (a : Nat), .pointer none, .string s, .int .i64 (b : Nat), .pointer none, .string s] ++ mflat s C := by
  rw [mflat_append, List.append_assoc]; rfl
theorem two_at {A C : List Nat} {a b k : Nat} (s : ByteArray) (hk : A.length = k) (r : Nat) (hr : r < 6) : (mflat s (A ++ a :: b :: C))[k * 3 + r]? = [Value.int .i64 (a : Nat), .pointer none, .string s, .int .i64 (b : Nat), .pointer none, .string s][r]? := by
  have hl : (mflat s A).length = k * 3 := by rw [mflat_length, hk]
  rw [two_split, List.append_assoc, List.getElem?_append_right (by omega), hl, Nat.add_sub_cancel_left, List.getElem?_append_left (by simpa using hr)]
theorem sink_shape {l : List Nat} {k x i : Nat} (h : l[k]? = some x) : l.take (k + 1) ++ i :: l.drop (k + 1) = l.take k ++ x :: i :: l.drop (k + 1) ∧ l.take k ++ i :: l.drop k = l.take k ++ i :: x :: l.drop (k + 1) ∧ (l.take k).length = k := by
  obtain ⟨hk, rfl⟩ := List.getElem?_eq_some_iff.1 h
  refine ⟨?_, ?_, ?_⟩
  · rw [List.take_succ_eq_append_getElem hk, List.append_assoc]; rfl
  · rw [List.drop_eq_getElem_cons hk]
  · rw [List.length_take]; omega
theorem Sink.cells {w0 w : World} {s : ByteArray} {g c i k x n : Nat} {l : List Nat} (h : Sink w0 w s g c i (k + 1) l) (hx : l[k]? = some x) (hl : l.length = n) :
    w.cell? ⟨g, k * 3, none⟩ = some (.int .i64 (x : Nat)) ∧ w.cell? ⟨g, k * 3 + 1, none⟩ = some (.pointer none) ∧ w.cell? ⟨g, k * 3 + 2, none⟩ = some (.string s) ∧
    w.cell? ⟨g, (k + 1) * 3, none⟩ = some (.int .i64 (i : Nat)) ∧ w.cell? ⟨g, (k + 1) * 3 + 1, none⟩ = some (.pointer none) ∧ w.cell? ⟨g, (k + 1) * 3 + 2, none⟩ = some (.string s) ∧
    w.frozen? ⟨g, k * 3, none⟩ = false ∧ w.frozen? ⟨g, k * 3 + 1, none⟩ = false ∧ w.frozen? ⟨g, k * 3 + 2, none⟩ = false ∧ w.frozen? ⟨g, (k + 1) * 3, none⟩ = false ∧ w.frozen? ⟨g, (k + 1) * 3 + 1, none⟩ = false ∧ w.frozen? ⟨g, (k + 1) * 3 + 2, none⟩ = false ∧ k + 1 ≤ n := by
  obtain ⟨e1, _, e3⟩ := sink_shape (i := i) hx
  have ho := h.own
  rw [e1] at ho
  have hk := (List.getElem?_eq_some_iff.1 hx).1
  have key : ∀ r, r < 6 → w.cell? ⟨g, k * 3 + r, none⟩ = [Value.int .i64 (x : Nat), .pointer none, .string s, .int .i64 (i : Nat), .pointer none, .string s][r]? := by
    intro r hr
    rw [ho.cellAt (k * 3 + r) (by omega), two_at s e3 r hr]
  have e : (k + 1) * 3 = k * 3 + 3 := by omega
  rw [e]
  exact ⟨key 0 (by omega), key 1 (by omega), key 2 (by omega), key 3 (by omega), key 4 (by omega), key 5 (by omega), ho.frozenAt _, ho.frozenAt _, ho.frozenAt _, ho.frozenAt _, ho.frozenAt _, ho.frozenAt _, by omega⟩

theorem Sink.done {w0 w w1 : World} {s : ByteArray} {g cc i j N n c : Nat} {p : Option Addr} {l : List Nat} (h : Sink w0 w s g cc i j l) (hf : Found w0 w1 s N (.slice p n c) l) (hi : i ∉ l) (hl : l.length = n) (hiN : i < N) (hj : j = 0 ∨ l.getD (j - 1) 0 ≤ i) (hjn : j ≤ n) :
    AddEnd w0 w s N i l (.returned (.slice (some ⟨g, 0, none⟩) (n + 1) cc)) := by
  obtain ⟨h1, h2⟩ := up_sink hf.up hi (by rw [hl]; exact hjn) h.past hj
  refine ⟨_, l.take j ++ i :: l.drop j, rfl, ⟨?_, h1, fun x hx => ?_, h.bel⟩, h2⟩
  · have e : (l.take j ++ i :: l.drop j).length = n + 1 := by
      rw [List.length_append, List.length_cons, List.length_take, List.length_drop]; omega
    rw [e, ← hl]; exact h.own
  · rcases (h2 x).1 hx with rfl | hx
    · exact hiN
    · exact hf.lt x hx

theorem set_mid {X M Y : List Value} {k r : Nat} (hk : X.length = k) (hr : r < M.length) (v : Value) : (X ++ M ++ Y).set (k + r) v = X ++ M.set r v ++ Y := by
  rw [List.append_assoc, List.set_append_right _ _ (by omega), hk, Nat.add_sub_cancel_left, List.set_append_left _ _ hr, List.append_assoc]
theorem Sink.swap {w0 w : World} {s : ByteArray} {g c i k x : Nat} {l : List Nat} (h : Sink w0 w s g c i (k + 1) l) (hx : l[k]? = some x) (hlt : i < x) :
    Sink w0 ((((((w.setCell ⟨g, k * 3, none⟩ (.int .i64 (i : Nat))).setCell ⟨g, k * 3 + 1, none⟩ (.pointer none)).setCell ⟨g, k * 3 + 2, none⟩ (.string s)).setCell ⟨g, (k + 1) * 3, none⟩ (.int .i64 (x : Nat))).setCell ⟨g, (k + 1) * 3 + 1, none⟩ (.pointer none)).setCell ⟨g, (k + 1) * 3 + 2, none⟩ (.string s)).drew s g c i k l := by
  obtain ⟨e1, e2, e3⟩ := sink_shape (i := i) hx
  have hk := (List.getElem?_eq_some_iff.1 hx).1
  have hX : (mflat s (l.take k)).length = k * 3 := by rw [mflat_length, e3]
  have hg : w0.heap.size ≤ g := (h.own.lt g rfl).1
  have e : (k + 1) * 3 = k * 3 + 3 := by omega
  refine ⟨?_, ?_, ?_⟩
  · have ho := h.own
    rw [e1, two_split] at ho
    have o1 := (ho.stored (k * 3 + 0) (.int .i64 (i : Nat))).1
    rw [set_mid hX (by simp)] at o1
    have o2 := (o1.stored (k * 3 + 1) (.pointer none)).1
    rw [set_mid hX (by simp)] at o2
    have o3 := (o2.stored (k * 3 + 2) (.string s)).1
    rw [set_mid hX (by simp)] at o3
    have o4 := (o3.stored (k * 3 + 3) (.int .i64 (x : Nat))).1
    rw [set_mid hX (by simp)] at o4
    have o5 := (o4.stored (k * 3 + 4) (.pointer none)).1
    rw [set_mid hX (by simp)] at o5
    have o6 := (o5.stored (k * 3 + 5) (.string s)).1
    rw [set_mid hX (by simp)] at o6
    rw [e2, two_split, e]
    exact o6.drew
  · exact (((((((h.bel.setCell (p := ⟨g, k * 3, none⟩) hg _).setCell (p := ⟨g, k * 3 + 1, none⟩) hg _).setCell (p := ⟨g, k * 3 + 2, none⟩) hg _).setCell (p := ⟨g, (k + 1) * 3, none⟩) hg _).setCell (p := ⟨g, (k + 1) * 3 + 1, none⟩) hg _).setCell (p := ⟨g, (k + 1) * 3 + 2, none⟩) hg _).drew)
  · obtain ⟨_, rfl⟩ := List.getElem?_eq_some_iff.1 hx
    rw [List.drop_eq_getElem_cons hk]
    intro y hy
    rcases List.mem_cons.1 hy with rfl | hy
    · exact hlt
    · exact h.past y hy

set_option maxHeartbeats 2000000 in
theorem add_any (w0 w : World) (lb sb tb N i : Nat) (s : ByteArray) (p : Option Addr) (n c : Nat) (l : List Nat) (HL : Hid (Look w0 lb sb tb s N)) (HF : Hid (Found w0 w s N (.slice p n c) l)) (hN : N ≤ 65536) (hiN : i < N) (HI : Hid (i ∉ l)) (HLN : Hid (l.length = n)) :
    Calls Try.prog 31 #[.pointer (some ⟨lb, 0, none⟩), .slice p n c, .int .i64 (i : Nat)] w fun e w' => AddEnd w0 w' s N i l e := by
  obtain ⟨i0, hi, hz0, hz1, hz2⟩ := info_parts info65
  have hn : n ≤ 65536 := by have := up_len HF.out.up HF.out.lt; rw [HLN.out] at this; omega
  have LK := HL.out.later HF.out.bel
  obtain ⟨c0, c1, c2, d0, e0'⟩ := LK
  have e0 := e0' i hiN
  have HO : Hid (w.drew.ownsRow w0.heap.size 65 3 (.slice p n c) n (mflat s l)) := by have := HF.out.own; rw [HLN.out] at this; exact this.drew
  have hB0 : w0.heap.size ≤ w.heap.size := HF.out.bel.size
  clear e0'
  go_enter Try.func31, Try.ntmps31
  go_wp2_with fail
  go_cut [1] (fun v wc => ∃ g cc, v = .slice (some ⟨g, 0, none⟩) (n + 1) cc ∧ Hid (Sink w0 wc s g cc i n l))
  case first =>
    go_region_law (refine step_append_own rfl (.tmp 8) (.tmp 25) 62 rfl w0.heap.size 65 i0 _ 3 32 Try.underlying62 hi hz0 hz1 hz2 rfl (by decide) (.slice p n c) n (mflat s l) (by simp [Act.eval]) (HO.out.alloc _) ⟨w.heap.size, 0, none⟩ 1 1 [.int .i64 (i : Nat), .pointer none, .string s] (by simp [Act.eval]) rfl (cell_three_new w.drew _ _ _ _) (three_cells i s) (by unfold maxLen; omega) (by omega) (le_alloc (w := w.drew) hB0 _) ?_; intro v1 w3 hown1 hgrow1)
    all_goals
      obtain ⟨g, cc, rfl, HSK⟩ := first_sink HF.out HLN.out hown1 hgrow1
      clear hown1 hgrow1
      go_wp2_with fail
      go_meet
      case rel => exact ⟨g, cc, rfl, HSK⟩
  case rest =>
    obtain ⟨g, cc, rfl, HSK⟩ := hcut
    clear HO d0 e0 c0 c1 c2
    go_wp2_with fail
    go_loopw [7] (fun v wr => ∃ j : Nat, j ≤ n ∧ v = .int .i64 j ∧ Hid (Sink w0 wr s g cc i j l)) (fun v _ => (intOf v).toNat)
    case atStart => exact ⟨n, Nat.le_refl _, by go_num, HSK⟩
    case round =>
      clear HSK
      obtain ⟨j, hj, rfl, HSK⟩ := hrel
      have c2 := (HL.out.later HSK.out.bel).c2
      cases j with
      | zero =>
        have HE := Hid.mk' (HSK.out.done HF.out HI.out HLN.out hiN (.inl rfl) hj)
        clear HSK
        go_wp2_with fail
        go_ret
        exact HE.out
      | succ k =>
        obtain ⟨x, hx⟩ : ∃ x, l[k]? = some x := ⟨_, List.getElem?_eq_getElem (by rw [HLN.out]; omega)⟩
        have HX := Hid.mk' hx
        obtain ⟨q0, q1, q2, q3, q4, q5, g0, g1, g2, g3, g4, g5, HNX⟩ := HSK.out.cells hx HLN.out
        by_cases hlt : i < x
        · go_wp2_with fail
          go_region
          go_wp2_with fail
          go_roundw
          case rel => exact ⟨k, by omega, rfl, HSK.out.swap hx hlt⟩
          case measure => simp [intOf]
        · have HE := Hid.mk' (HSK.out.done HF.out HI.out HLN.out hiN (.inr (by rw [Nat.add_sub_cancel, List.getD_eq_getElem?_getD, hx]; exact Nat.le_of_not_lt hlt)) hj)
          clear HSK
          go_wp2_with fail
          go_ret
          exact HE.out

end Go.Proofs.Qxb6600448a.Tr
