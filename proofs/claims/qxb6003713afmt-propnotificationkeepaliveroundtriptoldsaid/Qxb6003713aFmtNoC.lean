import Derived.Test.Qxb6003713aFmtNoB
namespace Go.Proofs.Qxb6003713aFmt
open Go.RowKit Go.Extern.Stop Go.Stop Go.Extern

theorem marshal_at (c s : Int) (ao : Option Addr) (cap : Nat) (l : List UInt8) (w : World) (hc0 : 0 ≤ c) (hc : c < 256) (hs0 : 0 ≤ s) (hs : s < 256) (hlen : l.length ≤ 4075) (hV : View w ao (bc l)) (hnil : ao = none → l = []) :
    Calls Tryf.prog 7 #[.agg #[.int .u8 c, .int .u8 s, .slice ao l.length cap]] w fun e w' => ∃ g o c1, e = .returned (.slice (some ⟨g, o, none⟩) (21 + l.length) c1) ∧ 21 + l.length ≤ c1 ∧ c1 ≤ maxLen ∧ Hid (View w' (some ⟨g, o, none⟩) (bc (msg 3 (by8 c :: by8 s :: l)))) ∧ Below w.heap.size w w' := by
  refine (marshal_any c s ao cap l w hc0 hc hs0 hs hlen hV hnil).mono ?_
  rintro e w1 ⟨v1, rfl, hO1, hb1⟩
  obtain ⟨a1, c1, hv1, hV1, hl1, hlc1, hcm1, hn1, ha1⟩ := View.own hO1
  have hm : (msg 3 ([by8 c, by8 s] ++ l)).length = 21 + l.length := by rw [msg_length]; simp; omega
  cases a1 with
  | none =>
    have := (hn1 rfl).1
    omega
  | some a =>
    obtain ⟨b, off, k⟩ := a
    have ha := ha1 _ rfl
    simp only at ha
    obtain ⟨rfl, rfl, _⟩ := ha
    rw [hm] at hv1 hlc1
    exact ⟨b, 0, c1, by rw [hv1], hlc1, hcm1, hV1, hb1⟩

theorem parse_at (c s : Int) (l : List UInt8) (g o c1 : Nat) (w : World) (hlen : l.length ≤ 4075) (h1 : 21 + l.length ≤ c1) (h2 : c1 ≤ maxLen) (hV : View w (some ⟨g, o, none⟩) (bc (msg 3 (by8 c :: by8 s :: l)))) :
    Calls Tryf.prog 6 #[.slice (some ⟨g, o, none⟩) (21 + l.length) c1] w fun e w' => e = .returned (.tuple #[.int .u8 3, .slice (some ⟨g, o + 19, none⟩) (2 + l.length) (c1 - 19), .nilIface]) ∧ Below w.heap.size w w' := by
  have hl : (by8 c :: by8 s :: l).length = 2 + l.length := by simp; omega
  have hM : ∀ j u, (bc (msg 3 (by8 c :: by8 s :: l)))[j]? = some u → w.cell? ⟨g, o + j, none⟩ = some u := by
    rcases hV with h | ⟨b, off, e, _, hc⟩
    · have : (msg 3 (by8 c :: by8 s :: l)).length = 0 := by
        have := congrArg List.length h
        simpa [bc] using this
      rw [msg_length] at this
      omega
    · cases e
      exact hc
  have h := parseMessage_any g o c1 3 (by8 c :: by8 s :: l) w (by omega) (by omega) (by simp) (by omega) (by omega) h2 hM
  rw [hl, show 19 + (2 + l.length) = 21 + l.length by omega] at h
  exact h

theorem parseN_at (c s : Int) (l : List UInt8) (g o c1 : Nat) (w : World) (hc0 : 0 ≤ c) (hc : c < 256) (hs0 : 0 ≤ s) (hs : s < 256) (h1 : 21 + l.length ≤ c1) (h2 : c1 ≤ maxLen) (hV : View w (some ⟨g, o, none⟩) (bc (msg 3 (by8 c :: by8 s :: l)))) :
    Calls Tryf.prog 8 #[.slice (some ⟨g, o + 19, none⟩) (2 + l.length) (c1 - 19)] w fun e w' => ∃ ad, e = .returned (.tuple #[.agg #[.int .u8 c, .int .u8 s, .slice ad l.length (c1 - 19 - 2)], .nilIface]) ∧ Hid (View w' ad (bc l)) ∧ Below w.heap.size w w' := by
  have hM : g < w.heap.size ∧ ∀ j u, (bc (msg 3 (by8 c :: by8 s :: l)))[j]? = some u → w.cell? ⟨g, o + j, none⟩ = some u := by
    rcases hV with h | ⟨b, off, e, hb, hc⟩
    · have : (msg 3 (by8 c :: by8 s :: l)).length = 0 := by
        have := congrArg List.length h
        simpa [bc] using this
      rw [msg_length] at this
      omega
    · cases e
      exact ⟨hb, hc⟩
  have hb : ∀ j u, (by8 c :: by8 s :: l)[j]? = some u → w.cell? ⟨g, o + 19 + j, none⟩ = some (.int .u8 (u.toNat : Int)) := by
    intro j u hu
    have := hM.2 (19 + j) _ (bc_of ((msg_body 3 _ j).trans hu))
    rw [show o + 19 + j = o + (19 + j) by omega]
    exact this
  have e0 := hb 0 _ rfl
  have e1 := hb 1 _ rfl
  rw [by8_nat _ hc0 hc] at e0
  rw [by8_nat _ hs0 hs] at e1
  have h := parseNotification_yes g (o + 19) (2 + l.length) (c1 - 19) c s w (by omega) (by omega) (by omega) e0 e1
  rw [show 2 + l.length - 2 = l.length by omega] at h
  refine h.mono ?_
  rintro e w1 ⟨rfl, hb1⟩
  refine ⟨_, rfl, show View _ _ _ from ?_, hb1⟩
  split
  · have : l = [] := List.eq_nil_of_length_eq_zero (by omega)
    subst this
    exact .inl rfl
  · refine .inr ⟨g, o + 19 + 2, rfl, Nat.lt_of_lt_of_le hM.1 hb1.size, fun j u hu => ?_⟩
    refine (hb1.cell (p := ⟨g, o + 19 + 2 + j, none⟩) hM.1).trans ?_
    simp only [bc, List.getElem?_map, Option.map_eq_some_iff] at hu
    obtain ⟨x, hx, rfl⟩ := hu
    have := hb (2 + j) x (by rw [show 2 + j = j + 1 + 1 by omega]; simpa using hx)
    rw [show o + 19 + (2 + j) = o + 19 + 2 + j by omega] at this
    exact this

theorem keep_at (w : World) :
    Calls Tryf.prog 10 #[] w fun e w' => ∃ g c1, e = .returned (.slice (some ⟨g, 0, none⟩) 19 c1) ∧ g < w'.heap.size ∧ w.heap.size ≤ g ∧ Hid (∀ k, k < 16 → w'.cell? ⟨g, k, none⟩ = some (.int .u8 255)) ∧ w'.cell? ⟨g, 16, none⟩ = some (.int .u8 0) ∧ w'.cell? ⟨g, 17, none⟩ = some (.int .u8 19) ∧ w'.cell? ⟨g, 18, none⟩ = some (.int .u8 4) ∧ Below w.heap.size w w' := by
  refine (keepalive_any w).mono ?_
  rintro e w1 ⟨v1, rfl, hO1, hb1⟩
  obtain ⟨a1, c1, hv1, hV1, hl1, hlc1, hcm1, hn1, ha1⟩ := View.own hO1
  have hm : (msg 4 []).length = 19 := by rw [msg_length]; simp
  cases a1 with
  | none =>
    have := (hn1 rfl).1
    omega
  | some a =>
    obtain ⟨b, off, k⟩ := a
    have ha := ha1 _ rfl
    simp only at ha
    obtain ⟨rfl, rfl, hge, hlt⟩ := ha
    rw [hm] at hv1
    have hM : ∀ j u, (bc (msg 4 []))[j]? = some u → w1.cell? ⟨b, j, none⟩ = some u := by
      rcases hV1 with h | ⟨b', off, e, _, hc⟩
      · have : (msg 4 []).length = 0 := by
          have := congrArg List.length h
          simpa [bc] using this
        omega
      · cases e
        intro j u hu
        have := hc j u hu
        rwa [Nat.zero_add] at this
    refine ⟨b, c1, by rw [hv1], hlt, hge, (fun k hk => hM k _ (msg_mark 4 [] k hk)), ?_, ?_, ?_, hb1⟩
    · exact hM 16 _ (bc_of (msg_at16 4 []))
    · exact hM 17 _ (bc_of (msg_at17 4 []))
    · exact hM 18 _ (bc_of (msg_at18 4 []))

end Go.Proofs.Qxb6003713aFmt
