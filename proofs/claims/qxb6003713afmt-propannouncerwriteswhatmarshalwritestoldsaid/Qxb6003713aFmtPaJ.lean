import Derived.Test.Qxb6003713aFmtPaI
namespace Go.Proofs.Qxb6003713aFmt
open Go.RowKit
set_option linter.unusedVariables false
set_option linter.unusedSimpArgs false

theorem be16_at (x : Int) (b n cap i : Nat) (I : Int) (hI : I = (i : Int)) (w : World) (hn : i + 1 < n) (hnm : n ≤ 1000000) (h0 : 0 ≤ x) (h1 : x < 65536) (hc0 : w.cell? ⟨b, i, none⟩ = some (.int .u8 (x / 256))) (hc1 : w.cell? ⟨b, i + 1, none⟩ = some (.int .u8 (x % 256))) :
    Calls Tryf.prog 47 #[.slice (some ⟨b, 0, none⟩) n cap, .int .i64 I] w fun e w' => e = .returned (.int .i64 x) ∧ ∃ nq, w' = w.drewN nq := by
  subst hI
  have h := be16_any b 0 n cap i (x / 256) (x % 256) w hn hnm (by omega) (by omega) (by omega) (by omega) (by rw [Nat.zero_add]; exact hc0) (by rw [Nat.zero_add]; exact hc1)
  rwa [show x / 256 * 256 + x % 256 = x by omega] at h

theorem at_at (g n1 c1 : Nat) (M : List UInt8) (a2 : Option Addr) (n2 c2 : Nat) (s : List UInt8) (pos : Nat) (I : Int) (hI : I = (pos : Int)) (w : World) (hn1 : M.length = n1) (hn2 : s.length = n2) (hl1 : n1 ≤ 1000000) (hfit : pos + n2 ≤ n1) (h1 : View w (some ⟨g, 0, none⟩) (bc M)) (h2 : View w a2 (bc s)) (heq : ∀ j, j < n2 → M[pos + j]? = s[j]?) :
    Calls Tryf.prog 49 #[.slice (some ⟨g, 0, none⟩) n1 c1, .int .i64 I, .slice a2 n2 c2] w fun e w' => e = .returned (.bool true) ∧ ∃ nq, w' = w.drewN nq := by
  subst hI
  exact at_any g n1 c1 M a2 n2 c2 s pos w hn1 hn2 hl1 hfit h1 h2 heq

/-- The cells of an UPDATE, by their places. -/
structure Cells (w : World) (g : Nat) (T V : Nat) (z23 z24 z25 z26 : Int) : Prop where
  c0 : ∀ k, k < 16 → w.cell? ⟨g, k, none⟩ = some (.int .u8 255)
  c16 : w.cell? ⟨g, 16, none⟩ = some (.int .u8 ((T : Int) / 256))
  c17 : w.cell? ⟨g, 17, none⟩ = some (.int .u8 ((T : Int) % 256))
  c18 : w.cell? ⟨g, 18, none⟩ = some (.int .u8 2)
  c19 : w.cell? ⟨g, 19, none⟩ = some (.int .u8 0)
  c20 : w.cell? ⟨g, 20, none⟩ = some (.int .u8 0)
  c21 : w.cell? ⟨g, 21, none⟩ = some (.int .u8 (((T - 23 : Nat) : Int) / 256))
  c22 : w.cell? ⟨g, 22, none⟩ = some (.int .u8 (((T - 23 : Nat) : Int) % 256))
  c23 : w.cell? ⟨g, 23, none⟩ = some (.int .u8 z23)
  c24 : w.cell? ⟨g, 24, none⟩ = some (.int .u8 z24)
  c25 : w.cell? ⟨g, 25, none⟩ = some (.int .u8 z25)
  c26 : 255 < V → w.cell? ⟨g, 26, none⟩ = some (.int .u8 z26)

theorem cells_of (w : World) (g : Nat) (fl fy : Int) (cn : Nat) (fx nl av : List UInt8) (hM : View w (some ⟨g, 0, none⟩) (bc (upd fl cn fx nl av))) (hc : cn < 256) (hf0 : 0 ≤ fl) (hf : fl < 256) (hx : bits .or .u8 fl 16 = fy) (hx0 : 0 ≤ fy) (hx1 : fy < 256) (hlen : fx.length + nl.length + av.length ≤ 4069) :
    Cells w g (23 + hdr (fx.length + nl.length) + (fx.length + nl.length) + av.length) (fx.length + nl.length) (if 255 < fx.length + nl.length then fy else fl) cn (if 255 < fx.length + nl.length then ((fx.length + nl.length : Nat) : Int) / 256 else ((fx.length + nl.length : Nat) : Int)) (((fx.length + nl.length : Nat) : Int) % 256) := by
  have hcell : ∀ j u, (upd fl cn fx nl av)[j]? = some u → w.cell? ⟨g, j, none⟩ = some (.int .u8 (u.toNat : Int)) := by
    intro j u hu
    rcases hM with h | ⟨b, off, e, _, hcc⟩
    · have : (upd fl cn fx nl av).length = 0 := by
        have := congrArg List.length h
        simpa [bc] using this
      rw [upd_length] at this
      omega
    · cases e
      have := hcc j _ (bc_of hu)
      rwa [Nat.zero_add] at this
  have hz : ∀ j (x : Int), 0 ≤ x → x < 256 → (upd fl cn fx nl av)[j]? = some (by8 x) → w.cell? ⟨g, j, none⟩ = some (.int .u8 x) := by
    intro j x h0 h1 h
    rw [hcell j _ h, by8_nat _ h0 h1]
  have hh : hdr (fx.length + nl.length) ≤ 4 := by unfold hdr; split <;> omega
  have hbl := body_length fl cn fx nl av
  have hal : (attr fl cn (fx ++ nl)).length = hdr (fx.length + nl.length) + (fx.length + nl.length) := by rw [attr_length, List.length_append]; rfl
  have at23 := fun j => upd_at fl cn fx nl av j
  refine ⟨fun k hk => ?_, hz 16 _ (by omega) (by omega) ?_, hz 17 _ (by omega) (by omega) ?_, hz 18 2 (by omega) (by omega) ?_, hz 19 0 (by omega) (by omega) ?_, hz 20 0 (by omega) (by omega) ?_, hz 21 _ (by omega) (by omega) ?_, hz 22 _ (by omega) (by omega) ?_, hz 23 _ ?_ ?_ ?_, hz 24 _ (by omega) (by omega) ?_, hz 25 _ ?_ ?_ ?_, fun hv => hz 26 _ (by omega) (by omega) ?_⟩
  · have h := msg_mark 2 (body fl cn fx nl av) k hk
    simp only [bc, List.getElem?_map, Option.map_eq_some_iff] at h
    obtain ⟨u, hu, h⟩ := h
    rw [hcell k u hu, h]
  · rw [upd, msg_at16, hbl]
    congr 3
    omega
  · rw [upd, msg_at17, hbl]
    congr 3
    omega
  · rw [upd, msg_at18]
  · rw [upd, show 19 = 19 + 0 from rfl, msg_body]
    rfl
  · rw [upd, show 20 = 19 + 1 from rfl, msg_body]
    rfl
  · rw [upd, show 21 = 19 + 2 from rfl, msg_body]
    show some (by8 (((attr fl cn (fx ++ nl)).length + av.length : Int) / 256)) = _
    rw [hal]
    congr 3
    omega
  · rw [upd, show 22 = 19 + 3 from rfl, msg_body]
    show some (by8 (((attr fl cn (fx ++ nl)).length + av.length : Int) % 256)) = _
    rw [hal]
    congr 3
    omega
  · split <;> omega
  · split <;> omega
  · rw [show 23 = 23 + 0 from rfl, at23 0, attr, List.length_append, hx]
    split <;> rfl
  · rw [show 24 = 23 + 1 from rfl, at23 1, attr, List.length_append, hx]
    split <;> rfl
  · split <;> omega
  · split <;> omega
  · rw [show 25 = 23 + 2 from rfl, at23 2, attr, List.length_append, hx]
    split <;> rfl
  · rw [show 26 = 23 + 3 from rfl, at23 3, attr, List.length_append, hx, if_pos hv]
    rfl

end Go.Proofs.Qxb6003713aFmt
