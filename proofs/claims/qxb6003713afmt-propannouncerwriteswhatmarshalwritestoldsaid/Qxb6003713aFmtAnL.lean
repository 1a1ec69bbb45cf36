import Derived.Test.Qxb6003713aFmtAnK
namespace Go.Proofs.Qxb6003713aFmt
open Go.RowKit
set_option linter.unusedVariables false
set_option linter.unusedSimpArgs false

theorem flags_ok (c : Nat) : ∃ fy : Int, bits .or .u8 (flagOf c) 16 = fy ∧ 0 ≤ fy ∧ fy < 256 ∧ 0 ≤ flagOf c ∧ flagOf c < 256 := by
  unfold flagOf
  split
  · exact ⟨80, by decide +kernel, by omega, by omega, by omega, by omega⟩
  · split
    · exact ⟨144, by decide +kernel, by omega, by omega, by omega, by omega⟩
    · split
      · exact ⟨208, by decide +kernel, by omega, by omega, by omega, by omega⟩
      · exact ⟨16, by decide +kernel, by omega, by omega, by omega, by omega⟩

/-- The table of flags. -/
def Fl (w : World) : Prop := 5 < w.heap.size ∧ ∀ c, c < 256 → w.cell? ⟨5, c, none⟩ = some (.int .u8 (flagOf c))
theorem Fl.later {w w' : World} (h : Fl w) (hb : Below w.heap.size w w') : Fl w' := ⟨Nat.lt_of_lt_of_le h.1 hb.size, fun c hc => cell_later hb (h.2 c hc)⟩

/-- An attribute more on a row of the road's own. -/
theorem attr_rw (w0 : World) (cn : Nat) (b : Value) (l : List UInt8) (ao : Option Addr) (n cap : Nat) (v : List UInt8) (w : World) (hF : Fl w0) (hR : Rw w0 w b l) (hc : cn < 256) (hn : v.length = n) (hlen : l.length ≤ 1000000) (hv : v.length ≤ 65000)
    (hV : View w ao (bc v)) (hnil : ao = none → v = []) (hne : ∀ k o, ao = some ⟨k, o, none⟩ → b.ownBlock ≠ some k) :
    Calls Tryf.prog 57 #[b, .int .u8 cn, .slice ao n cap] w fun e w' => ∃ b', e = .returned b' ∧ Rw w0 w' b' (l ++ attr (flagOf cn) cn v) ∧ Ext w w' b b' := by
  obtain ⟨fy, h1, h2, h3, h4, h5⟩ := flags_ok cn
  subst hn
  refine (attr_big (flagOf cn) fy cn w0.heap.size b l ao cap v w hc h4 h5 h1 h2 h3 hR.row hR.size hlen hv hV hnil hne (cell_later hR.below (hF.2 cn hc)) hF.1).mono ?_
  rintro e w' ⟨b', rfl, hO, hE⟩
  exact ⟨b', rfl, hR.ext hE hO, hE⟩

theorem view_row {e : TypeId} {B : Nat} {w : World} {g n cap : Nat} {l : List UInt8} (h : OB e B w (.slice (some ⟨g, 0, none⟩) n cap) l) : View w (some ⟨g, 0, none⟩) (bc l) := by
  obtain ⟨ao, c, e, hV, _⟩ := View.own h
  simp only [Value.slice.injEq] at e
  rw [← e.1] at hV
  exact hV

theorem lit_view (w : World) (l : List UInt8) (cs : Array Value) (H : Nat) (hH : w.heap.size = H) (h : cs.toList = bc l) : View (w.alloc (.cells cs 5)) (some ⟨H, 0, none⟩) (bc l) := by
  subst hH
  exact (Blk.new w 5 cs).view _ h

/-- The extended communities that came in. -/
def coOct (cs : List (Nat → UInt8)) : List UInt8 := cs.flatMap o8
def CV (w : World) (ea : Option Addr) (cs : List (Nat → UInt8)) : Prop :=
  cs = [] ∨ ∃ eb eo, ea = some ⟨eb, eo, none⟩ ∧ eb < w.heap.size ∧ ∀ i (hi : i < cs.length), ∀ j, j < 8 → w.cell? ⟨eb, eo + i * 8 + j, none⟩ = some (.int .u8 (cs[i] j).toNat)
theorem CV.later {w w' : World} {ea : Option Addr} {cs : List (Nat → UInt8)} (h : CV w ea cs) (hb : Below w.heap.size w w') : CV w' ea cs := by
  rcases h with h | ⟨eb, eo, h1, h2, h3⟩
  · exact .inl h
  · exact .inr ⟨eb, eo, h1, Nat.lt_of_lt_of_le h2 hb.size, fun i hi j hj => cell_later hb (h3 i hi j hj)⟩
theorem CV.at8 {w : World} {eb eo : Nat} {cs : List (Nat → UInt8)} (h : CV w (some ⟨eb, eo, none⟩) cs) {k : Nat} {cz : Nat → UInt8} (hk : cs[k]? = some cz) :
    w.cell? ⟨eb, eo + k * 8, none⟩ = some (.int .u8 (cz 0).toNat) ∧ w.cell? ⟨eb, eo + k * 8 + 1, none⟩ = some (.int .u8 (cz 1).toNat) ∧ w.cell? ⟨eb, eo + k * 8 + 2, none⟩ = some (.int .u8 (cz 2).toNat) ∧ w.cell? ⟨eb, eo + k * 8 + 3, none⟩ = some (.int .u8 (cz 3).toNat) ∧
    w.cell? ⟨eb, eo + k * 8 + 4, none⟩ = some (.int .u8 (cz 4).toNat) ∧ w.cell? ⟨eb, eo + k * 8 + 5, none⟩ = some (.int .u8 (cz 5).toNat) ∧ w.cell? ⟨eb, eo + k * 8 + 6, none⟩ = some (.int .u8 (cz 6).toNat) ∧ w.cell? ⟨eb, eo + k * 8 + 7, none⟩ = some (.int .u8 (cz 7).toNat) := by
  obtain ⟨hk', rfl⟩ := List.getElem?_eq_some_iff.1 hk
  rcases h with rfl | ⟨b, o, e, _, h⟩
  · simp at hk'
  · simp only [Option.some.injEq, Addr.mk.injEq, and_true] at e
    obtain ⟨rfl, rfl⟩ := e
    exact ⟨h k hk' 0 (by omega), h k hk' 1 (by omega), h k hk' 2 (by omega), h k hk' 3 (by omega), h k hk' 4 (by omega), h k hk' 5 (by omega), h k hk' 6 (by omega), h k hk' 7 (by omega)⟩
theorem co_take {cs : List (Nat → UInt8)} {k : Nat} {cz : Nat → UInt8} (hk : cs[k]? = some cz) : coOct (cs.take (k + 1)) = coOct (cs.take k) ++ o8 cz := by
  obtain ⟨hk', rfl⟩ := List.getElem?_eq_some_iff.1 hk
  unfold coOct
  rw [List.take_succ_eq_append_getElem hk', List.flatMap_append]
  simp
/-- The tunnel of one's own. -/
def TV (w : World) (tp : Option Addr) : Option PI → Prop
  | none => tp = none
  | some q => ∃ tb ta tc, tp = some ⟨tb, 0, none⟩ ∧ Blk w tb 76 #[.int .u8 q.fl, .int .u8 q.tt, .int .u32 q.lb, .slice ta q.tid.length tc] ∧ View w ta (bc q.tid) ∧ (ta = none → q.tid = [])
theorem TV.later {w w' : World} {tp : Option Addr} {pm : Option PI} (h : TV w tp pm) (hb : Below w.heap.size w w') : TV w' tp pm := by
  cases pm with
  | none => exact h
  | some q =>
    obtain ⟨tb, ta, tc, h1, h2, h3, h4⟩ := h
    exact ⟨tb, ta, tc, h1, blk_on hb h2, h3.all hb, h4⟩

def pathOct (la pa : Nat) (a4 : Bool) : List UInt8 := if la = pa then [] else if a4 then [2, 1] ++ b4 la else if la ≤ 65535 then [2, 1] ++ be16 la else [2, 1] ++ be16 23456
def wkOct (la pa : Nat) (a4 : Bool) : List UInt8 := attr (flagOf 1) 1 [0] ++ attr (flagOf 2) 2 (pathOct la pa a4) ++ (if la = pa then attr (flagOf 5) 5 (b4 100) else [])
def coAttr (cs : List (Nat → UInt8)) : List UInt8 := if cs.length = 0 then [] else attr (flagOf 16) 16 (coOct cs)
def p4Attr (la pa : Nat) (a4 : Bool) : List UInt8 := if la = pa then [] else if a4 then [] else if la ≤ 65535 then [] else attr (flagOf 17) 17 ([2, 1] ++ b4 la)
def pmAttr : Option PI → List UInt8
  | none => []
  | some q => attr (flagOf 22) 22 (pmOct q)
/-- All path attributes. -/
def avOf (la pa : Nat) (a4 : Bool) (cs : List (Nat → UInt8)) (pm : Option PI) : List UInt8 := wkOct la pa a4 ++ coAttr cs ++ p4Attr la pa a4 ++ pmAttr pm

theorem coOct_len : ∀ cs : List (Nat → UInt8), (coOct cs).length = 8 * cs.length
  | [] => rfl
  | c :: cs => by
    have := coOct_len cs
    unfold coOct at this ⊢
    rw [List.flatMap_cons, List.length_append, this]
    simp [o8]; omega
theorem attr_len (fl cn : Int) (v : List UInt8) : (attr fl cn v).length = hdl v.length + v.length := by
  rw [attr_length]; rfl
theorem attr_le (fl cn : Int) (v : List UInt8) (N : Nat) (h : v.length ≤ N) : (attr fl cn v).length ≤ N + 4 := by
  rw [attr_len]; have := hdl_le v.length; omega
theorem len_app {a b : List UInt8} {x y : Nat} (ha : a.length ≤ x) (hb : b.length ≤ y) : (a ++ b).length ≤ x + y := by rw [List.length_append]; omega
theorem avOf_len (la pa : Nat) (a4 : Bool) (cs : List (Nat → UInt8)) (pm : Option PI) : (avOf la pa a4 cs pm).length = wkLen la pa a4 + coLen cs.length + pmLen pm := by
  have h1 : (wkOct la pa a4).length + (p4Attr la pa a4).length = wkLen la pa a4 := by
    unfold wkOct p4Attr pathOct wkLen
    split
    · simp [attr_len, b4, hdl]
    · split
      · simp [attr_len, b4, hdl]
      · split <;> simp [attr_len, b4, be16, hdl]
  have h2 : (coAttr cs).length = coLen cs.length := by
    unfold coAttr coLen
    split
    · rfl
    · rw [attr_len, coOct_len]
  have h3 : (pmAttr pm).length = pmLen pm := by
    cases pm with
    | none => rfl
    | some q =>
      show (attr _ _ _).length = _
      rw [attr_len]
      have : (pmOct q).length = 5 + q.tid.length := by simp [pmOct, b3]; omega
      rw [this]; rfl
  unfold avOf
  simp only [List.length_append]
  omega

end Go.Proofs.Qxb6003713aFmt
