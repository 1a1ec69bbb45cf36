import Derived.Test.Qxb6003713aFmtNoC
namespace Go.Proofs.Qxb6003713aFmt
open Go.RowKit Go.Extern.Stop Go.Stop Go.Extern

theorem Below.next {B : Nat} {a b c : World} (h : Below B a b) (k : Below b.heap.size b c) (hB : B ≤ b.heap.size) : Below B a c := h.trans (k.mono hB)
theorem Below.go {a b c : World} (h : Below a.heap.size a b) (k : Below b.heap.size b c) : Below a.heap.size a c := h.trans (k.mono h.size)

theorem below_of_drewN {B : Nat} {w w' : World} (h : Below B w w') {n : Nat} : Below B w (w'.drewN n) := ⟨h.os, h.tape, h.output, h.size, h.block⟩

theorem box_kept {w w3 : World} {x y z : Value} (hb : Below (w.alloc (.cells #[x, y, z] 25)).heap.size (w.alloc (.cells #[x, y, z] 25)) w3) (o : Obj) :
    (w3.alloc o).cell? ⟨w.heap.size, 0, none⟩ = some x ∧ (w3.alloc o).cell? ⟨w.heap.size, 1, none⟩ = some y ∧ (w3.alloc o).cell? ⟨w.heap.size, 2, none⟩ = some z := by
  have h := hb.alloc hb.size o
  exact ⟨cell_later h (World.cell?_alloc_new (w := w) #[x, y, z] 25 0), cell_later h (World.cell?_alloc_new (w := w) #[x, y, z] 25 1), cell_later h (World.cell?_alloc_new (w := w) #[x, y, z] 25 2)⟩

set_option maxRecDepth 100000 in
set_option maxHeartbeats 2000000 in
theorem notif_any (F : Interp) (c s : Int) (ad : Option Addr) (cd : Nat) (l : List UInt8) (ao : Option Addr) (n cap : Nat) (t : ByteArray) (a : Addr) (w : World) (hF : F.answers w.tape) (hc0 : 0 ≤ c) (hc : c < 256) (hs0 : 0 ≤ s) (hs : s < 256)
    (hV : View w ad (bc l)) (hnil : ad = none → l = []) (hg : w.cell? ⟨0, 0, none⟩ = some (.iface 152 (.pointer (some a)))) (ht : w.cell? a = some (.string t)) :
    Calls Tryf.prog 3 #[.agg #[.int .u8 c, .int .u8 s, .slice ad l.length cd], .slice ao n cap] w fun e w' => e = .returned (.bool true) ∧ Below w.heap.size w w' := by
  by_cases hbig : l.length ≤ 4075
  · have HV : Hid (View w ad (bc l)) := hV
    have HNil : Hid (ad = none → l = []) := hnil
    have HG : Hid (w.cell? ⟨0, 0, none⟩ = some (.iface 152 (.pointer (some a)))) := hg
    have HT : Hid (w.cell? a = some (.string t)) := ht
    clear hV hnil hg ht
    go_enter Tryf.func3, Tryf.ntmps3
    go_wp2_with (first
      | (go_at_call 10; go_must (refine (keep_at _).mono ?_); rintro e w6 ⟨g6, c6, rfl, hg6, hgg6, HK, hk16, hk17, hk18, hb6⟩)
      | (go_at_call 9; go_must (refine (sameBytes_any ad3 ad _ cd l _ (by omega) (HV3.out.alloc _) ((HV.out.all hbw3.out).alloc _)).mono ?_); rintro e w5 ⟨rfl, nq5, rfl⟩)
      | (go_at_call 8; have _tok := hb2; go_must (refine (parseN_at c s l g1 o1 c1 _ hc0 hc hs0 hs hc11 hc12 (View.all HV1.out hb2)).mono ?_); rintro e w3 ⟨ad3, rfl, HV3, hb3⟩; have hbw3 : Hid (Below w.heap.size w w3) := Below.go (Below.go (Below.go ((Below.refl _ _).alloc (Nat.le_refl _) _) hb1) hb2) hb3; have hx := box_kept (Below.go (Below.go hb1 hb2) hb3); have hx0 := fun o => (hx o).1; have hx1 := fun o => (hx o).2.1; have hx2 := fun o => (hx o).2.2; clear hx)
      | (go_at_call 6; go_must (refine (parse_at c s l g1 o1 c1 _ hbig hc11 hc12 HV1.out).mono ?_); rintro e w2 ⟨rfl, hb2⟩)
      | (go_at_call 7; go_must (refine (marshal_at c s ad cd l _ hc0 hc hs0 hs hbig (HV.out.alloc _) HNil.out).mono ?_); rintro e w1 ⟨g1, o1, c1, rfl, hc11, hc12, HV1, hb1⟩)
      | fail)
    have hbw6 : Hid (Below w.heap.size w w6) := Below.go (below_of_drewN (hbw3.out.alloc hbw3.out.size _)) hb6
    have HF6 : Hid (F.answers w6.tape) := by
      have := hbw6.out.tape
      rw [Hid, this]
      exact hF
    clear hb1 hb2 hb3 hx0 hx1 hx2 HV1 HV3 _tok hbw3
    go_loop [10] (fun i => ∃ k : Nat, k ≤ 16 ∧ i = .int .i64 k) (fun i => 16 - (intOf i).toNat)
    case atStart => exact ⟨0, Nat.zero_le _, rfl⟩
    case round =>
      obtain ⟨k, hk, rfl⟩ := hrel
      by_cases hlt : k < 16
      · have hcell := HK.out k hlt
        have j1 : (k : Int) < 16 := by omega
        have j2 : (k : Int) < 19 := by omega
        go_wp2
        go_round
        case rel => exact ⟨k + 1, by omega, by go_num⟩
        case measure => simp [intOf]; omega
      · by_cases hn2 : n < 2
        · have jn : (n : Int) < 2 := by omega
          go_wp2_with (first
            | (go_at_call 11; go_must (refine (is_wrap_same N8 0 a _ (by exact hN82 _)).mono ?_); rintro e w9 ⟨rfl, rfl⟩)
            | (go_at_call 8; go_must (refine (parseNotification_no F ao n cap t a _ HF6.out hn2 (cell_later hbw6.out HG.out) (cell_later hbw6.out HT.out)).mono ?_); rintro e w8 ⟨N8, hN8, rfl, hN81, hb8⟩; have hgl : ∀ o, (w8.alloc o).cell? ⟨0, 0, none⟩ = some (.iface 152 (.pointer (some a))) := fun o => cell_later ((Below.go hbw6.out hb8).alloc (Below.go hbw6.out hb8).size o) HG.out; have hN82 : ∀ o, (w8.alloc o).cell? ⟨N8, 1, none⟩ = some (.iface 152 (.pointer (some a))) := fun o => cell_later ((Below.refl _ _).alloc (Nat.le_refl _) o) hN81)
            | fail)
          go_ret
          exact ⟨rfl, (Below.go hbw6.out hb8).alloc (Below.go hbw6.out hb8).size _⟩
        · have jn : ¬ (n : Int) < 2 := by omega
          go_wp2
          go_ret
          exact ⟨rfl, hbw6.out⟩
  · go_enter Tryf.func3, Tryf.ntmps3
    go_wp2
    go_ret
    exact ⟨rfl, (Below.refl _ _).alloc (Nat.le_refl _) _⟩

end Go.Proofs.Qxb6003713aFmt
