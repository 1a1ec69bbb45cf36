import Derived.Test.Qxb6003713aFmtAnH
import Derived.Deep.RegionHeld3
namespace Go.Proofs.Qxb6003713aFmt
open Go.RowKit
set_option linter.unusedVariables false
set_option linter.unusedSimpArgs false

theorem below_drew {B : Nat} {w w' : World} (h : Below B w w') : Below B w w'.drew := ⟨h.os, h.tape, h.output, h.size, h.block⟩

/-- A row of the road's own, in a world that left the start alone. -/
structure Rw (w0 W : World) (v : Value) (l : List UInt8) : Prop where
  row : OB 5 w0.heap.size W v l
  below : Below w0.heap.size w0 W
theorem Rw.size {w0 W : World} {v : Value} {l : List UInt8} (h : Rw w0 W v l) : w0.heap.size ≤ W.heap.size := h.below.size
theorem Rw.ext {w0 W W' : World} {v v' : Value} {l l' : List UInt8} (h : Rw w0 W v l) (hx : Ext W W' v v') (ho : OB 5 w0.heap.size W' v' l') : Rw w0 W' v' l' :=
  ⟨ho, hx.below h.below h.size (fun k hk => (h.row.lt k hk).1)⟩
theorem Rw.later {w0 W W' : World} {v : Value} {l : List UInt8} (h : Rw w0 W v l) (hb : Below W.heap.size W W') : Rw w0 W' v l :=
  ⟨h.row.below hb (fun k hk => (h.row.lt k hk).2), h.below.trans (hb.mono h.size)⟩
theorem Rw.drew {w0 W : World} {v : Value} {l : List UInt8} (h : Rw w0 W v l) : Rw w0 W.drew v l := ⟨h.row, below_drew h.below⟩
theorem Rw.alloc {w0 W : World} {v : Value} {l : List UInt8} (h : Rw w0 W v l) (o : Obj) : Rw w0 (W.alloc o) v l := ⟨h.row.alloc o, h.below.alloc h.size o⟩

theorem ext_below {w w' : World} (h : Below w.heap.size w w') (v : Value) : Ext w w' v v := ⟨⟨h.os, h.tape, h.output, h.size, fun i hi _ => h.block i hi⟩, .inl rfl⟩
theorem Ext.own {w w' : World} {v v' : Value} (h : Ext w w' v v') {i : Nat} (hi : i < w.heap.size) (e : v'.ownBlock = some i) : v.ownBlock = some i := by
  rcases h.lies with q | ⟨g, q, hg⟩
  · rw [← q]; exact e
  · rw [q] at e; cases e; omega
theorem famKept {w w1 : World} {v v1 : Value} {X : Nat → Prop} {w0 : World} (k : Kept w0 w X) (h : Ext w w1 v v1) (hX : ∀ i, i < w0.heap.size → v.ownBlock = some i → X i) : Kept w0 w1 X := k.next (Kept.ofExt h) hX

set_option maxRecDepth 100000 in
set_option maxHeartbeats 2000000 in
/-- An address field. -/
theorem addr_any (w0 : World) (p4 p6 : Addr) (n : Nat) (o : Nat → UInt8) (v : Value) (l : List UInt8) (w : World) (hz : Zs w0 p4 p6) (hR : Rw w0 w v l) (hn : n = 0 ∨ n = 4 ∨ n = 16) (hlen : l.length ≤ 1000000) :
    Calls Tryf.prog 54 #[v, .agg #[.int .u64 (aHi n o : Nat), .int .u64 (aLo n o : Nat), .pointer (aZ p4 p6 n)]] w fun e w' => ∃ v', e = .returned v' ∧ OB 5 w0.heap.size w' v' (l ++ ([by8 (8 * n : Nat)] ++ octOf n o)) ∧ Ext w w' v v' := by
  obtain ⟨i0, hi, hz0, hz1, hz2⟩ := info_parts Tryf.info5
  have HB : Hid (bc [by8 (8 * n : Nat)] = [Value.int .u8 (IntKind.u8.wrap (8 * (n : Int)))]) := by
    rcases hn with rfl | rfl | rfl <;> rfl
  have i1 : (n : Int) ≤ 16 := by omega
  have HN := Hid.mk'' hn
  have HL : Hid ((octOf n o).length = n) := octOf_len n o hn
  have HZ : Hid (∀ W, Below w0.heap.size w0 W → Zs W p4 p6) := fun W hb => by
    obtain ⟨c, t, e⟩ := hz.h4
    exact hz.later hb
  have HR := Hid.mk'' hR
  have HLen := Hid.mk'' hlen
  obtain ⟨W, hW⟩ : ∃ W, W = w.alloc (.cells #[.int .u64 (aHi n o : Nat), .int .u64 (aLo n o : Nat), .pointer (aZ p4 p6 n)] 62) := ⟨_, rfl⟩
  have HR0 : Hid (Rw w0 W v l) := by rw [hW]; exact hR.alloc _
  have SX : Hid (∀ X, Kept W X (fun k => v.ownBlock = some k) → X.cell? ⟨w.heap.size, 0, none⟩ = some (.int .u64 (aHi n o : Nat)) ∧ X.cell? ⟨w.heap.size, 1, none⟩ = some (.int .u64 (aLo n o : Nat)) ∧ X.cell? ⟨w.heap.size, 2, none⟩ = some (.pointer (aZ p4 p6 n))) := fun X hk => by
    subst hW
    have hb := (Blk.new w 62 #[.int .u64 (aHi n o : Nat), .int .u64 (aLo n o : Nat), .pointer (aZ p4 p6 n)]).kept hk (fun e => by have := (hR.row.lt _ e).2; omega)
    exact ⟨hb.cell 0, hb.cell 1, hb.cell 2⟩
  have HE0 : Hid (∀ {X u}, Ext W X v u → Ext w X v u) := fun {X u} h => by rw [hW] at h; exact h.of_alloc
  clear hn hz hR hlen
  go_enter Tryf.func54, Tryf.ntmps54
  go_wp2_with fail
  rw [← hW]
  clear hW
  obtain ⟨c0, c1, c2⟩ := SX.out W (Kept.refl _ _)
  go_region_held3 (fun w' => w'.cell? ⟨w.heap.size, 0, none⟩ = some (.int .u64 (aHi n o : Nat)) ∧ w'.cell? ⟨w.heap.size, 1, none⟩ = some (.int .u64 (aLo n o : Nat)) ∧ w'.cell? ⟨w.heap.size, 2, none⟩ = some (.pointer (aZ p4 p6 n))) ((first | go_keep | exact SX.out _ HK5.out | exact SX.out _ HK4.out | exact SX.out _ HK3.out | exact SX.out _ HK1.out)) ((first
    | (go_at_call 51; refine (as_c p4 p6 n o _ (by exact HZ.out _ HR3.out.below)).mono ?_; rintro e w4 ⟨a4, rfl, hV4, hn4, hp4, hb4⟩; have HR4 := Hid.mk'' (HR3.out.later hb4); have HK4 := Hid.mk'' (HK3.out.trans (Kept.ofAll hb4 _)); have HX4 := Hid.mk'' (HX3.out.trans (ext_below hb4 _)))
    | (go_at_call 63; refine (bits_c p4 p6 n o _ (by exact HZ.out _ HR0.out.drew.below) HN.out).mono ?_; rintro e w1 ⟨rfl, hb1⟩; have HR1 := Hid.mk'' (HR0.out.drew.later hb1); have HK1 := Hid.mk'' ((Kept.refl W (fun k => v.ownBlock = some k)).drew.trans (Kept.ofAll hb1 _)); have HX1 := Hid.mk'' (ext_below hb1 v))
    | (have _tok := HR4; refine step_append_any _ (by rfl) (.tmp 10) (.tmp 12) 23 23 (by rfl) w0.heap.size 5 i0 (.int .u8 0) 1 1 Tryf.underlying23 hi hz0 hz1 hz2 rfl _ _ _ (by rfl) (by exact HR4.out.row) _ (octOf n o).length (bc (octOf n o)) (by rfl) (Src.view _ Tryf.underlying23 a4 (octOf n o) _ hV4 hn4) (by have := HL.out; have := HLen.out; unfold maxLen; simp; omega) (by have := HL.out; have := HLen.out; simp; omega) (by exact HR4.out.size) ?_; intro v5 w5 hown5 hext5 _ _; have HK5 := Hid.mk'' (famKept HK4.out hext5 (fun i hi h => HX4.out.own (i := i) hi h)))
    | (refine step_append_any _ (by rfl) (.tmp 5) (.tmp 9) 23 23 (by rfl) w0.heap.size 5 i0 (.int .u8 0) 1 1 Tryf.underlying23 hi hz0 hz1 hz2 rfl _ _ _ (by rfl) (by exact HR1.out.row.alloc _) _ 1 (bc [by8 (8 * n : Nat)]) (by rfl) (Src.litH _ Tryf.underlying23 [by8 (8 * n : Nat)] _ 1 1 5 w1.heap.size (by simp) (by rw [HB.out]) rfl) (by have := HLen.out; unfold maxLen; omega) (by have := HLen.out; omega) (by exact (HR1.out.alloc _).size) ?_; intro v3 w3 hown3 hext3 _ _; have HO3 : Hid (OB 5 w0.heap.size w3 v3 (l ++ [by8 (8 * n : Nat)])) := OB.app hown3 rfl; have HX3 := Hid.mk'' (HX1.out.trans hext3.of_alloc); have HR3 := Hid.mk'' (HR1.out.ext hext3.of_alloc HO3.out); have HK3 := Hid.mk'' (famKept HK1.out hext3.of_alloc (fun i _ h => h)); clear hown3 hext3)
    | fail))
  go_wp2_with fail
  go_ret
  refine ⟨_, rfl, ?_, HE0.out (HX4.out.trans hext5).of_drew⟩
  have := OB.app hown5 rfl
  simpa [List.append_assoc] using this

end Go.Proofs.Qxb6003713aFmt
