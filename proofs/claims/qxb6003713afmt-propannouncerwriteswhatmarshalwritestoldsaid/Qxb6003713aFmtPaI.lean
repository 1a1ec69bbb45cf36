import Derived.Test.Qxb6003713aFmtPaH
import Derived.Test.Qxb6003713aFmtNoA
namespace Go.Proofs.Qxb6003713aFmt
open Go.RowKit
set_option linter.unusedVariables false
set_option linter.unusedSimpArgs false

/-! Where the octets of an UPDATE lie. -/

/-- The attribute's header. -/
def hdr (n : Nat) : Nat := if 255 < n then 4 else 3

theorem body_length (fl cn : Int) (fx nl av : List UInt8) : (body fl cn fx nl av).length = 4 + hdr (fx.length + nl.length) + (fx.length + nl.length) + av.length := by
  simp only [body, be16, List.length_append, List.length_cons, List.length_nil, attr_length, hdr]
  omega
theorem upd_length (fl cn : Int) (fx nl av : List UInt8) : (upd fl cn fx nl av).length = 23 + hdr (fx.length + nl.length) + (fx.length + nl.length) + av.length := by
  rw [upd, msg_length, body_length]
  omega
theorem body_at (fl cn : Int) (fx nl av : List UInt8) (j : Nat) : (body fl cn fx nl av)[4 + j]? = (attr fl cn (fx ++ nl) ++ av)[j]? := by
  unfold body be16
  rw [show [0, 0] ++ [by8 (((attr fl cn (fx ++ nl)).length + av.length : Int) / 256), by8 (((attr fl cn (fx ++ nl)).length + av.length : Int) % 256)] ++ attr fl cn (fx ++ nl) ++ av = [0, 0, by8 (((attr fl cn (fx ++ nl)).length + av.length : Int) / 256), by8 (((attr fl cn (fx ++ nl)).length + av.length : Int) % 256)] ++ (attr fl cn (fx ++ nl) ++ av) by simp]
  rw [List.getElem?_append_right (by simp)]
  simp
theorem upd_at (fl cn : Int) (fx nl av : List UInt8) (j : Nat) : (upd fl cn fx nl av)[23 + j]? = (attr fl cn (fx ++ nl) ++ av)[j]? := by
  rw [upd, show 23 + j = 19 + (4 + j) by omega, msg_body, body_at]
theorem attr_tail (fl cn : Int) (v av : List UInt8) (j : Nat) : (attr fl cn v ++ av)[hdr v.length + j]? = (v ++ av)[j]? := by
  unfold attr hdr
  split
  · rw [show [by8 (bits BinOp.or IntKind.u8 fl 16), by8 cn] ++ be16 v.length ++ v ++ av = [by8 (bits BinOp.or IntKind.u8 fl 16), by8 cn, by8 ((v.length : Int) / 256), by8 ((v.length : Int) % 256)] ++ (v ++ av) by simp [be16], List.getElem?_append_right (by simp)]
    simp
  · rw [show [by8 fl, by8 cn, by8 v.length] ++ v ++ av = [by8 fl, by8 cn, by8 v.length] ++ (v ++ av) by simp, List.getElem?_append_right (by simp)]
    simp
theorem upd_tail (fl cn : Int) (fx nl av : List UInt8) (j : Nat) : (upd fl cn fx nl av)[23 + hdr (fx.length + nl.length) + j]? = (fx ++ nl ++ av)[j]? := by
  rw [Nat.add_assoc, upd_at, ← List.length_append, attr_tail]

theorem cat_split (L : List (List UInt8)) {a k b : Nat} (hak : a ≤ k) (hkb : k < b) (hb : b ≤ L.length) : cat L a b = cat L a k ++ (el L k ++ cat L (k + 1) b) := by
  have h1 : L.drop a = (L.drop a).take (k - a) ++ L.drop k := by
    have := (List.take_append_drop (k - a) (L.drop a)).symm
    rwa [List.drop_drop, show a + (k - a) = k by omega] at this
  have h2 : L.drop k = el L k :: L.drop (k + 1) := by
    rw [List.drop_eq_getElem_cons (by omega)]
    simp [el, List.getD, List.getElem?_eq_getElem (show k < L.length by omega)]
  unfold cat
  conv => lhs; rw [h1]
  have hlen : ((L.drop a).take (k - a)).length = k - a := by simp; omega
  rw [List.take_append, hlen, List.take_take, Nat.min_eq_right (by omega), List.flatten_append, show b - a - (k - a) = (b - (k + 1)) + 1 by omega, h2, List.take_succ_cons, List.flatten_cons]

end Go.Proofs.Qxb6003713aFmt
