import Derived.Test.Qxb6003713aFmtAnR
namespace Go.Proofs.Qxb6003713aFmt
open Go.RowKit
set_option linter.unusedVariables false
set_option linter.unusedSimpArgs false

theorem annflush_none (pb anb B : Nat) (c f a v nv : Value) (W : World) (hP : PKb W pb 132 c f a v) (hA : Blk W anb 127 #[.pointer (some ⟨pb, 0, none⟩), nv]) (hO : OB 5 B W v []) :
    Calls Tryf.prog 20 #[.pointer (some ⟨anb, 0, none⟩)] W fun e w' => e = .returned (.slice none 0 0) ∧ w' = W := by
  have c0 : W.cell? ⟨anb, 0, none⟩ = some (.pointer (some ⟨pb, 0, none⟩)) := hA.cell 0
  have HP := Hid.mk'' hP
  have HO := Hid.mk'' hO
  clear hP hA hO
  go_enter Tryf.func20, Tryf.ntmps20
  go_wp2_with (first
    | (go_at_call 42; refine (flush_none pb c f a v B W HP.out HO.out).mono ?_; rintro e w1 ⟨rfl, rfl⟩)
    | fail)
  go_ret
  exact ⟨rfl, rfl⟩

theorem annflush_some {wl : World} {fa : Option Addr} {cf : Nat} {fx : List UInt8} {aa : Option Addr} {ca : Nat} {av : List UInt8} {L : List (List UInt8)} (E : PE wl fa cf fx aa ca av L) (anb B : Nat) (v nv : Value) (nl : List UInt8) (W : World) (hb : Below wl.heap.size wl W)
    (hP : PKb W wl.heap.size 132 (.int .u8 14) (.slice fa fx.length cf) (.slice aa av.length ca) v) (hA : Blk W anb 127 #[.pointer (some ⟨wl.heap.size, 0, none⟩), nv]) (hO : OB 5 B W v nl) (hnl : nl ≠ []) (hvp : v.ownBlock ≠ some wl.heap.size) (hlen : fx.length + nl.length + av.length ≤ 4069) :
    Calls Tryf.prog 20 #[.pointer (some ⟨anb, 0, none⟩)] W fun e w' => ∃ g n c, e = .returned (.slice (some ⟨g, 0, none⟩) n c) ∧ OB 5 W.heap.size w' (.slice (some ⟨g, 0, none⟩) n c) (upd (flagOf 14) (14 : Nat) fx nl av) ∧ Kept W w' (fun k => k = wl.heap.size) := by
  have c0 : W.cell? ⟨anb, 0, none⟩ = some (.pointer (some ⟨wl.heap.size, 0, none⟩)) := hA.cell 0
  obtain ⟨fy, h1, h2, h3, h4, h5⟩ := flags_ok 14
  have HC := Hid.mk'' (flush_some (flagOf 14) fy 14 B wl.heap.size fa cf fx aa ca av v nl W (by decide) h4 h5 h1 h2 h3 hP E.hfc E.hcf E.hfn (E.hVf.all hb) (E.hVa.all hb) E.hna (fun k o h => by have := E.hpa k o h; omega) hO hnl hvp (cell_later hb (E.hF.2 14 (by decide))) E.hF.1 hlen)
  clear hP hA hO E hb h1 h2 h3 h4 h5
  go_enter Tryf.func20, Tryf.ntmps20
  go_wp2_with (first
    | (go_at_call 42; refine HC.out.mono ?_; rintro e w1 ⟨m, v', rfl, hm, hP', hO', hv', hk⟩; have HM := Hid.mk'' hm; have HK := Hid.mk'' hk; clear hm hP' hO' hv' hk)
    | fail)
  go_ret
  obtain ⟨g, n, c, rfl⟩ := upd_form HM.out
  exact ⟨g, n, c, rfl, HM.out, HK.out⟩

/-- Slices in a row of one's own, each showing what no mutable block holds. -/
def GM (B : Nat) (W : World) (M : Nat → Prop) (row : Value) (Ms : List (List UInt8)) : Prop :=
  ∃ xs, W.ownsRow B 23 1 row Ms.length xs ∧ ∀ j, j < Ms.length → ∃ g n c, xs[j]? = some (.slice (some ⟨g, 0, none⟩) n c) ∧ (el Ms j).length = n ∧ View W (some ⟨g, 0, none⟩) (bc (el Ms j)) ∧ B ≤ g ∧ g < W.heap.size ∧ ¬ M g
theorem GM.nil (B : Nat) (W : World) (M : Nat → Prop) : GM B W M (.slice none 0 0) [] := ⟨[], World.ownsRow_nil _ _ _ _, fun j hj => by simp at hj⟩
theorem GM.lt {B : Nat} {W : World} {M : Nat → Prop} {row : Value} {Ms : List (List UInt8)} (h : GM B W M row Ms) : ∀ g, row.ownBlock = some g → B ≤ g ∧ g < W.heap.size := by
  obtain ⟨xs, h1, _⟩ := h
  exact World.ownsRow.lt h1
theorem GM.step {B : Nat} {W W' : World} {M M' X : Nat → Prop} {row : Value} {Ms : List (List UInt8)} (h : GM B W M row Ms) (hk : Kept W W' X) (hr : ∀ g, row.ownBlock = some g → ¬ X g) (hX : ∀ g, B ≤ g → g < W.heap.size → X g → M g) (hM : ∀ g, B ≤ g → g < W.heap.size → M' g → M g) : GM B W' M' row Ms := by
  obtain ⟨xs, h1, h2⟩ := h
  refine ⟨xs, ownsRow_keptX h1 hk hr, fun j hj => ?_⟩
  obtain ⟨g, n, c, e, hn, hV, hB, hg, hm⟩ := h2 j hj
  exact ⟨g, n, c, e, hn, hV.kept hk (fun b o q => by cases q; exact fun q => hm (hX g hB hg q)), hB, Nat.lt_of_lt_of_le hg hk.size, fun q => hm (hM g hB hg q)⟩
theorem GM.push {B : Nat} {W : World} {M : Nat → Prop} {row : Value} {Ms : List (List UInt8)} (h : GM B W M row Ms) (hrM : ∀ g, row.ownBlock = some g → M g) : ∃ xs, W.ownsRow B 23 1 row Ms.length xs ∧
    ∀ (o : Obj) (row' : Value) (W' : World) (M' : Nat → Prop) (m : List UInt8) (g n c : Nat), W'.ownsRow B 23 1 row' (Ms.length + 1) (xs ++ [.slice (some ⟨g, 0, none⟩) n c]) → Ext (W.alloc o) W' row row' → View W (some ⟨g, 0, none⟩) (bc m) → m.length = n → B ≤ g → g < W.heap.size → ¬ M g →
      (∀ g, B ≤ g → g < W.heap.size → M' g → M g) → GM B W' M' row' (Ms ++ [m]) := by
  obtain ⟨xs, h1, h2⟩ := h
  have hxl : xs.length = Ms.length := by simpa using h1.1
  refine ⟨xs, h1, fun o row' W' M' m g n c hown hext hV hn hB hg hm hM => ?_⟩
  have hk := Kept.ofExt hext.of_alloc
  refine ⟨xs ++ [.slice (some ⟨g, 0, none⟩) n c], by simpa using hown, fun j hj => ?_⟩
  simp only [List.length_append, List.length_singleton] at hj
  by_cases hjj : j < Ms.length
  · obtain ⟨g', n', c', e, hn', hV', hB', hg', hm'⟩ := h2 j hjj
    have e1 : el (Ms ++ [m]) j = el Ms j := by simp [el, List.getD, List.getElem?_append_left hjj]
    rw [e1]
    exact ⟨g', n', c', by rw [List.getElem?_append_left (by omega)]; exact e, hn', hV'.kept hk (fun b o q => by cases q; exact fun q => hm' (hrM _ q)), hB', Nat.lt_of_lt_of_le hg' hk.size, fun q => hm' (hM g' hB' hg' q)⟩
  · obtain rfl : j = Ms.length := by omega
    have e1 : el (Ms ++ [m]) Ms.length = m := by simp [el, List.getD]
    rw [e1]
    exact ⟨g, n, c, by rw [← hxl]; simp, hn, hV.kept hk (fun b o q => by cases q; exact fun q => hm (hrM _ q)), hB, Nat.lt_of_lt_of_le hg hk.size, fun q => hm (hM g hB hg q)⟩
/-- What such a row shows. -/
theorem GM.lview {B : Nat} {W : World} {M : Nat → Prop} {row : Value} {Ms : List (List UInt8)} (h : GM B W M row Ms) : ∃ ma cm, row = .slice ma Ms.length cm ∧ LView W ma Ms ∧ MView W ma Ms := by
  obtain ⟨xs, h1, h2⟩ := h
  have hxl : xs.length = Ms.length := by simpa using h1.1
  obtain ⟨ma, cm, hv, hV, _⟩ := View.own h1
  refine ⟨ma, cm, hv, ⟨xs, hV, hxl, fun j hj => ?_⟩, fun j hj => ?_⟩
  · obtain ⟨g, n, c, e, hn, hV', _⟩ := h2 j hj
    exact ⟨_, c, by rw [hn]; exact e, hV', fun q => by cases q⟩
  · obtain ⟨g, n, c, e, hn, hV', _⟩ := h2 j hj
    obtain ⟨b, off, hma, _, hc⟩ := hV.at (j := j) (by omega)
    exact ⟨b, off, g, c, hma, by rw [hn]; exact hc j _ e, hV'⟩
theorem MView.all {w w' : World} {ma : Option Addr} {Ms : List (List UInt8)} (h : MView w ma Ms) (hb : Below w.heap.size w w') : MView w' ma Ms := fun j hj => by
  obtain ⟨b, off, g, c, h1, h2, h3⟩ := h j hj
  exact ⟨b, off, g, c, h1, cell_later hb h2, h3.all hb⟩

/-- Nothing to pack. -/
theorem update_nil (pb B : Nat) (c f a : Value) (w : World) (hP : PKb w pb 132 c f a (.slice none 0 0)) :
    Calls Tryf.prog 44 #[.slice none 0 0, .pointer (some ⟨pb, 0, none⟩), .slice none 0 0] w fun e w' => e = .returned (.tuple #[.slice none 0 0, .nilIface]) ∧ w' = w := by
  have HP := Hid.mk'' hP
  clear hP
  go_enter Tryf.func44, Tryf.ntmps44
  go_wp2
  go_loopw [0, 15] (fun m i wr => m = .slice none 0 0 ∧ i = .int .i64 0 ∧ wr = w) (fun _ i _ => 0)
  case atStart => exact ⟨rfl, rfl, rfl⟩
  case round =>
    obtain ⟨rfl, rfl, rfl⟩ := hrel
    go_wp2_with (first
      | (go_at_call 42; go_must (refine (flush_none pb _ _ _ _ 0 _ HP.out (OB.nil _ _ _)).mono ?_); rintro e w1 ⟨rfl, rfl⟩)
      | fail)
    refine bodyPost_ret (v := .tuple #[.slice none 0 0, .nilIface]) (by simp [results, Tryf.results44, go_sem]) rfl ?_
    exact ⟨rfl, rfl⟩

end Go.Proofs.Qxb6003713aFmt
