import Derived.Test.Qxb6003713aFmtAnJ
import Derived.Deep.CutRange
namespace Go.Proofs.Qxb6003713aFmt
open Go.RowKit
set_option linter.unusedVariables false
set_option linter.unusedSimpArgs false

def o8 (f : Nat → UInt8) : List UInt8 := [f 0, f 1, f 2, f 3, f 4, f 5, f 6, f 7]
def o10 (f : Nat → UInt8) : List UInt8 := [f 0, f 1, f 2, f 3, f 4, f 5, f 6, f 7, f 8, f 9]
def o6 (f : Nat → UInt8) : List UInt8 := [f 0, f 1, f 2, f 3, f 4, f 5]

/-- Cells that lie in a row. -/
def RC (w : World) (rb ro : Nat) (xs : Array Value) : Prop := rb < w.heap.size ∧ ∀ k, k < xs.size → w.cell? ⟨rb, ro + k, none⟩ = xs[k]?
theorem RC.on {w w' : World} {rb ro : Nat} {xs : Array Value} (h : RC w rb ro xs) (hs : w.heap.size ≤ w'.heap.size) (e : w'.heap[rb]? = w.heap[rb]?) : RC w' rb ro xs :=
  ⟨Nat.lt_of_lt_of_le h.1 hs, fun k hk => by rw [← h.2 k hk]; exact World.cell?_of_block e⟩
theorem lt39 {r : RI} {p4 p6 : Addr} (k : Nat) (h : k < 39) : k < (r.outs p4 p6).size := h
theorem RC.v8 {w : World} {rb ro : Nat} {r : RI} {p4 p6 : Addr} (h : RC w rb ro (r.outs p4 p6)) : View w (some ⟨rb, ro + 1, none⟩) (bc (o8 r.rd)) :=
  .inr ⟨rb, ro + 1, rfl, h.1, fun j u hu => by
    match j, hu with
    | 0, hu => exact (h.2 1 (lt39 _ (by decide))).trans hu
    | 1, hu => exact (h.2 2 (lt39 _ (by decide))).trans hu
    | 2, hu => exact (h.2 3 (lt39 _ (by decide))).trans hu
    | 3, hu => exact (h.2 4 (lt39 _ (by decide))).trans hu
    | 4, hu => exact (h.2 5 (lt39 _ (by decide))).trans hu
    | 5, hu => exact (h.2 6 (lt39 _ (by decide))).trans hu
    | 6, hu => exact (h.2 7 (lt39 _ (by decide))).trans hu
    | 7, hu => exact (h.2 8 (lt39 _ (by decide))).trans hu
    | j + 8, hu => exact absurd (List.getElem?_eq_some_iff.1 hu).1 (by simp [bc, o8])⟩
theorem RC.v10 {w : World} {rb ro : Nat} {r : RI} {p4 p6 : Addr} (h : RC w rb ro (r.outs p4 p6)) : View w (some ⟨rb, ro + 9, none⟩) (bc (o10 r.es)) :=
  .inr ⟨rb, ro + 9, rfl, h.1, fun j u hu => by
    match j, hu with
    | 0, hu => exact (h.2 9 (lt39 _ (by decide))).trans hu
    | 1, hu => exact (h.2 10 (lt39 _ (by decide))).trans hu
    | 2, hu => exact (h.2 11 (lt39 _ (by decide))).trans hu
    | 3, hu => exact (h.2 12 (lt39 _ (by decide))).trans hu
    | 4, hu => exact (h.2 13 (lt39 _ (by decide))).trans hu
    | 5, hu => exact (h.2 14 (lt39 _ (by decide))).trans hu
    | 6, hu => exact (h.2 15 (lt39 _ (by decide))).trans hu
    | 7, hu => exact (h.2 16 (lt39 _ (by decide))).trans hu
    | 8, hu => exact (h.2 17 (lt39 _ (by decide))).trans hu
    | 9, hu => exact (h.2 18 (lt39 _ (by decide))).trans hu
    | j + 10, hu => exact absurd (List.getElem?_eq_some_iff.1 hu).1 (by simp [bc, o10])⟩
theorem RC.v6 {w : World} {rb ro : Nat} {r : RI} {p4 p6 : Addr} (h : RC w rb ro (r.outs p4 p6)) : View w (some ⟨rb, ro + 20, none⟩) (bc (o6 r.mac)) :=
  .inr ⟨rb, ro + 20, rfl, h.1, fun j u hu => by
    match j, hu with
    | 0, hu => exact (h.2 20 (lt39 _ (by decide))).trans hu
    | 1, hu => exact (h.2 21 (lt39 _ (by decide))).trans hu
    | 2, hu => exact (h.2 22 (lt39 _ (by decide))).trans hu
    | 3, hu => exact (h.2 23 (lt39 _ (by decide))).trans hu
    | 4, hu => exact (h.2 24 (lt39 _ (by decide))).trans hu
    | 5, hu => exact (h.2 25 (lt39 _ (by decide))).trans hu
    | j + 6, hu => exact absurd (List.getElem?_eq_some_iff.1 hu).1 (by simp [bc, o6])⟩
theorem RC.c {w : World} {rb ro : Nat} {r : RI} {p4 p6 : Addr} (h : RC w rb ro (r.outs p4 p6)) : w.cell? ⟨rb, ro, none⟩ = some (.int .u8 r.ty) ∧ w.cell? ⟨rb, ro + 19, none⟩ = some (.int .u32 r.tag) ∧ w.cell? ⟨rb, ro + 26, none⟩ = some (.int .u64 (aHi r.n r.ip : Nat)) ∧ w.cell? ⟨rb, ro + 27, none⟩ = some (.int .u64 (aLo r.n r.ip : Nat)) ∧ w.cell? ⟨rb, ro + 28, none⟩ = some (.pointer (aZ p4 p6 r.n)) ∧ w.cell? ⟨rb, ro + 36, none⟩ = some (.int .u32 r.l1) ∧ w.cell? ⟨rb, ro + 37, none⟩ = some (.int .u32 r.l2) ∧ w.cell? ⟨rb, ro + 38, none⟩ = some (.bool r.h2) :=
  ⟨h.2 0 (lt39 _ (by decide)), h.2 19 (lt39 _ (by decide)), h.2 26 (lt39 _ (by decide)), h.2 27 (lt39 _ (by decide)), h.2 28 (lt39 _ (by decide)), h.2 36 (lt39 _ (by decide)), h.2 37 (lt39 _ (by decide)), h.2 38 (lt39 _ (by decide))⟩

/-- The address field. -/
def adOct (r : RI) : List UInt8 := [by8 (8 * r.n : Nat)] ++ octOf r.n r.ip
/-- The NLRI's octets behind its length. -/
def rest2 (r : RI) : List UInt8 := o8 r.rd ++ o10 r.es ++ b4 r.tag ++ [48] ++ o6 r.mac ++ adOct r ++ b3 r.l1
def rest3 (r : RI) : List UInt8 := o8 r.rd ++ b4 r.tag ++ adOct r
def rest4 (r : RI) : List UInt8 := o8 r.rd ++ o10 r.es ++ adOct r
def RI.rest (r : RI) : List UInt8 := if r.ty = 2 then (if r.h2 then rest2 r ++ b3 r.l2 else rest2 r) else if r.ty = 3 then rest3 r else rest4 r
/-- The NLRI. -/
def RI.oct (r : RI) : List UInt8 := [by8 r.ty, by8 r.rest.length] ++ r.rest
/-- What a route is asked. -/
structure RI.ok (r : RI) : Prop where
  ty : r.ty = 2 ∨ r.ty = 3 ∨ r.ty = 4
  n : r.n = 0 ∨ r.n = 4 ∨ r.n = 16
  tag : r.tag < 4294967296
  l1 : r.l1 < 4294967296
  l2 : r.l2 < 4294967296

theorem adOct_len (r : RI) (h : r.ok) : (adOct r).length = 1 + r.n := by
  unfold adOct
  rw [List.length_append, octOf_len _ _ h.n]
  rfl
theorem RI.oct_len (r : RI) (h : r.ok) : (r.oct.length : Int) = r.len ∧ r.oct.length ≤ 60 ∧ 2 ≤ r.oct.length := by
  have ha := adOct_len r h
  have hn := h.n
  unfold RI.oct RI.rest RI.len nlenOf
  rcases h.ty with e | e | e
  · cases r.h2
    · simp [e, rest2, o8, o10, o6, b4, b3, ha]; omega
    · simp [e, rest2, o8, o10, o6, b4, b3, ha]; omega
  · simp [e, rest3, o8, b4, ha]; omega
  · simp [e, rest4, o8, o10, ha]; omega

/-- A stored octet of a row of one's own. -/
theorem Ext.stored {B : Nat} {w : World} {g n cap : Nat} {l : List UInt8} (h : OB 5 B w (.slice (some ⟨g, 0, none⟩) n cap) l) (hn : l.length = n) (j : Nat) (c : UInt8) : Ext w (w.setCell ⟨g, j, none⟩ (.int .u8 (c.toNat : Int))) (.slice (some ⟨g, 0, none⟩) n cap) (.slice (some ⟨g, 0, none⟩) n cap) :=
  ⟨(h.stored hn j c).2, .inl rfl⟩

set_option maxRecDepth 100000 in
set_option maxHeartbeats 4000000 in
theorem nlri_3 (w0 : World) (p4 p6 : Addr) (r : RI) (rb ro : Nat) (v : Value) (w : World) (hz : Zs w0 p4 p6) (hok : r.ok) (hR : Rw w0 w v []) (hC : RC w rb ro (r.outs p4 p6)) (hne : v.ownBlock ≠ some rb) (hty : r.ty = 3) :
    Calls Tryf.prog 40 #[.pointer (some ⟨rb, ro, none⟩), v] w fun e w' => ∃ v', e = .returned (.tuple #[v', .nilIface]) ∧ OB 5 w0.heap.size w' v' r.oct ∧ Ext w w' v v' := by
  obtain ⟨i0, hi, hz0, hz1, hz2⟩ := info_parts Tryf.info5
  have HR0 := Hid.mk'' hR
  have HX0 := Hid.mk'' (Ext.refl w v)
  have HZ := Hid.mk'' hz
  have HOK := Hid.mk'' hok
  have HT : Hid (r.ty = 3) := hty
  have HA : Hid ((adOct r).length ≤ 17) := by have := adOct_len r hok; have := hok.n; show _ ≤ _; omega
  have SX : Hid (∀ W u, Ext w W v u → RC W rb ro (r.outs p4 p6)) := fun W u hx => hC.on hx.size (hx.block hC.1 hne)
  have HB : Hid (bc [by8 r.ty, 0] = [Value.int .u8 3, Value.int .u8 0]) := by
    rw [hty]; rfl
  obtain ⟨a0, a19, a26, a27, a28, a36, a37, a38⟩ := hC.c
  rw [hty] at a0
  clear hz hR hC hne hty hok a19 a26 a27 a28 a36 a37 a38
  go_enter Tryf.func40, Tryf.ntmps40
  go_wp2_with (first
    | (at_builtin; have _tok := HR1; go_must (refine wpList_append_any _ rfl (.tmp 16) (.tmp 20) 23 23 rfl w0.heap.size 5 i0 (.int .u8 0) 1 1 Tryf.underlying23 hi hz0 hz1 hz2 rfl _ ([by8 r.ty, 0]).length (bc ([by8 r.ty, 0])) (by rfl) (by exact HR1.out.row) _ 8 (bc (o8 r.rd)) (by rfl) (Src.view _ Tryf.underlying23 (some ⟨rb, ro + 1, none⟩) (o8 r.rd) 8 (SX.out _ _ HX1.out).v8 (fun h => by cases h)) (by have := HA.out; unfold maxLen; simp [o8, o10, o6, b4, b3]; try omega) (by have := HA.out; simp [o8, o10, o6, b4, b3]; try omega) (by exact HR1.out.size) ?_); intro v2 w2 hown hext _ _; have HX2 : Hid (Ext w w2 v v2) := HX1.out.trans hext; have HR2 : Hid (Rw w0 w2 v2 ([by8 r.ty, 0] ++ o8 r.rd)) := HR1.out.ext hext (OB.app hown rfl); clear hown hext; obtain ⟨b0, b19, b26, b27, b28, b36, b37, b38⟩ := (SX.out _ _ HX2.out).c; rw [HT.out] at b0)
    | (at_builtin; have _tok := HR0; go_must (refine wpList_append_any _ rfl (.tmp 7) (.tmp 12) 23 23 rfl w0.heap.size 5 i0 (.int .u8 0) 1 1 Tryf.underlying23 hi hz0 hz1 hz2 rfl _ ([] : List UInt8).length (bc ([] : List UInt8)) rfl (HR0.out.row.alloc _) _ 2 (bc [by8 r.ty, 0]) rfl (Src.litH _ Tryf.underlying23 [by8 r.ty, 0] _ 2 2 5 w.heap.size (by simp) (by rw [HB.out]) rfl) (by have := HA.out; unfold maxLen; simp [o8, o10, o6, b4, b3]; try omega) (by have := HA.out; simp [o8, o10, o6, b4, b3]; try omega) (by exact (HR0.out.alloc _).size) ?_); intro v1 w1 hown hext _ _; have HX1 : Hid (Ext w w1 v v1) := HX0.out.trans hext.of_alloc; have HR1 : Hid (Rw w0 w1 v1 ([by8 r.ty, 0])) := HR0.out.ext hext.of_alloc (by simpa using OB.app (l := []) hown rfl); clear hown hext; obtain ⟨b0, b19, b26, b27, b28, b36, b37, b38⟩ := (SX.out _ _ HX1.out).c; rw [HT.out] at b0; obtain ⟨g1, q1, hv1⟩ : ∃ g1 q1, v1 = .slice (some ⟨g1, 0, none⟩) 2 q1 := (by rcases HR1.out.row.form with h | ⟨g, c, h, _⟩; (exact absurd h.2 (by simp)); exact ⟨g, c, h⟩); subst hv1)
    | fail)
  go_region_held3 (fun w' => w'.cell? ⟨rb, ro + 19, none⟩ = some (.int .u32 r.tag)) ((first | go_keep | exact (SX.out _ _ HX3.out).c.2.1)) ((first
    | (go_at_call 53; refine (app32_any r.tag w0.heap.size _ ([by8 r.ty, 0] ++ o8 r.rd) _ HOK.out.tag (by exact HR2.out.row) (by exact HR2.out.size) (by simp [o8, o10, o6, b4, b3])).mono ?_; rintro e w3 ⟨v3, rfl, hO, hE, -⟩; have HX3 : Hid (Ext w w3 v v3) := HX2.out.trans hE.of_drew; have HR3 : Hid (Rw w0 w3 v3 ([by8 r.ty, 0] ++ o8 r.rd ++ b4 r.tag)) := HR2.out.ext hE.of_drew hO; clear hO hE)
    | fail))
  obtain ⟨b0, b19, b26, b27, b28, b36, b37, b38⟩ := (SX.out _ _ HX3.out).c
  rw [HT.out] at b0
  go_upto_region 21 with (first
    | (go_at_call 54; have _tok := HR3; refine (addr_any w0 p4 p6 r.n r.ip _ ([by8 r.ty, 0] ++ o8 r.rd ++ b4 r.tag) _ HZ.out HR3.out HOK.out.n (by have := HA.out; simp [o8, o10, o6, b4, b3])).mono ?_; rintro e w4 ⟨v4, rfl, hO, hE⟩; have HX4 : Hid (Ext w w4 v v4) := HX3.out.trans hE; have HR4 : Hid (Rw w0 w4 v4 ([by8 r.ty, 0] ++ o8 r.rd ++ b4 r.tag ++ adOct r)) := HR3.out.ext hE hO; clear hO hE; obtain ⟨b0, b19, b26, b27, b28, b36, b37, b38⟩ := (SX.out _ _ HX4.out).c; rw [HT.out] at b0)
    | fail)
  obtain ⟨L, hL⟩ : ∃ L : List UInt8, L = ([by8 r.ty, 0] ++ o8 r.rd ++ b4 r.tag ++ adOct r) := ⟨_, rfl⟩
  have HL : Hid (L = [by8 r.ty, 0] ++ r.rest) := by rw [Hid, hL]; unfold RI.rest; rw [if_neg (by rw [HT.out]; decide), if_pos HT.out]; simp [rest3]
  have HRL : Hid (Rw w0 w4 v4 L) := by rw [hL]; exact HR4.out
  have HO := Hid.mk'' (RI.oct_len r HOK.out)
  have HN0 : Hid (L.length = r.oct.length) := by rw [Hid, HL.out]; simp [RI.oct]
  obtain ⟨N, hN⟩ : ∃ N, N = L.length := ⟨_, rfl⟩
  have HN : Hid (L.length = N) := hN.symm
  obtain ⟨g, q, hv⟩ : ∃ g q, v4 = .slice (some ⟨g, 0, none⟩) N q := by
    rcases HRL.out.row.form with h | ⟨g, c, h, _⟩
    · exact absurd h.2 (by rw [HL.out]; simp)
    · rw [hN]; exact ⟨g, c, h⟩
  subst hv
  have i1 : (1 : Int) < (N : Int) := by have := HO.out; have := HN0.out; have := HN.out; have : 2 < L.length := (by rw [HL.out, List.length_append]; have : 8 ≤ r.rest.length := (by unfold RI.rest; split; split; all_goals (try split); all_goals simp [rest2, rest3, rest4, o8]; try omega); simp; omega); omega
  have i2 : (N : Int) ≤ 62 := by have := HO.out; have := HN0.out; have := HN.out; omega
  have i3 : 1 < N := by omega
  obtain ⟨z, hz⟩ : ∃ z : Int, z = ((by8 ((N : Int) - 2)).toNat : Int) := ⟨_, rfl⟩
  have hw : IntKind.u8.wrap ((N : Int) - 2) = z := by rw [hz, by8_nat _ (by omega) (by omega), IntKind.wrap_u8]; omega
  have HS : Hid (OB 5 w0.heap.size (w4.setCell ⟨g, 1, none⟩ (.int .u8 z)) (.slice (some ⟨g, 0, none⟩) N q) (L.set 1 (by8 ((N : Int) - 2)))) := by rw [hz]; exact (HRL.out.row.stored HN.out 1 _).1
  have HE : Hid (Ext w4 (w4.setCell ⟨g, 1, none⟩ (.int .u8 z)) (.slice (some ⟨g, 0, none⟩) N q) (.slice (some ⟨g, 0, none⟩) N q)) := by rw [hz]; exact Ext.stored HRL.out.row HN.out 1 _
  have c1 := HRL.out.row.cell 1 (by have := HN.out; omega)
  have f1 : w4.frozen? ⟨g, 1, none⟩ = false := HRL.out.row.frozenAt HN.out 1
  generalize ((L[1]'(by have := HN.out; omega)).toNat : Int) = z1 at c1
  clear hz hN hL
  go_wp2_with fail
  refine bodyPost_ret (v := .tuple #[.slice (some ⟨g, 0, none⟩) N q, .nilIface]) (by simp [results, Tryf.results40, go_sem]) rfl ?_
  refine ⟨_, rfl, ?_, HX4.out.trans HE.out⟩
  have e : L.set 1 (by8 ((N : Int) - 2)) = r.oct := by
    have h1 : ((N : Int) - 2) = (r.rest.length : Int) := by have := HN.out; rw [HL.out] at this; simp at this; omega
    rw [h1, HL.out]
    rfl
  rw [← e]
  exact HS.out

set_option maxRecDepth 100000 in
set_option maxHeartbeats 4000000 in
theorem nlri_4 (w0 : World) (p4 p6 : Addr) (r : RI) (rb ro : Nat) (v : Value) (w : World) (hz : Zs w0 p4 p6) (hok : r.ok) (hR : Rw w0 w v []) (hC : RC w rb ro (r.outs p4 p6)) (hne : v.ownBlock ≠ some rb) (hty : r.ty = 4) :
    Calls Tryf.prog 40 #[.pointer (some ⟨rb, ro, none⟩), v] w fun e w' => ∃ v', e = .returned (.tuple #[v', .nilIface]) ∧ OB 5 w0.heap.size w' v' r.oct ∧ Ext w w' v v' := by
  obtain ⟨i0, hi, hz0, hz1, hz2⟩ := info_parts Tryf.info5
  have HR0 := Hid.mk'' hR
  have HX0 := Hid.mk'' (Ext.refl w v)
  have HZ := Hid.mk'' hz
  have HOK := Hid.mk'' hok
  have HT : Hid (r.ty = 4) := hty
  have HA : Hid ((adOct r).length ≤ 17) := by have := adOct_len r hok; have := hok.n; show _ ≤ _; omega
  have SX : Hid (∀ W u, Ext w W v u → RC W rb ro (r.outs p4 p6)) := fun W u hx => hC.on hx.size (hx.block hC.1 hne)
  have HB : Hid (bc [by8 r.ty, 0] = [Value.int .u8 4, Value.int .u8 0]) := by
    rw [hty]; rfl
  obtain ⟨a0, a19, a26, a27, a28, a36, a37, a38⟩ := hC.c
  rw [hty] at a0
  clear hz hR hC hne hty hok a19 a26 a27 a28 a36 a37 a38
  go_enter Tryf.func40, Tryf.ntmps40
  go_upto_region 21 with (first
    | (go_at_call 54; have _tok := HR3; refine (addr_any w0 p4 p6 r.n r.ip _ ([by8 r.ty, 0] ++ o8 r.rd ++ o10 r.es) _ HZ.out HR3.out HOK.out.n (by have := HA.out; simp [o8, o10, o6, b4, b3])).mono ?_; rintro e w4 ⟨v4, rfl, hO, hE⟩; have HX4 : Hid (Ext w w4 v v4) := HX3.out.trans hE; have HR4 : Hid (Rw w0 w4 v4 ([by8 r.ty, 0] ++ o8 r.rd ++ o10 r.es ++ adOct r)) := HR3.out.ext hE hO; clear hO hE; obtain ⟨b0, b19, b26, b27, b28, b36, b37, b38⟩ := (SX.out _ _ HX4.out).c; rw [HT.out] at b0)
    | (at_builtin; have _tok := HR2; go_must (refine wpList_append_any _ rfl (.tmp 96) (.tmp 100) 23 23 rfl w0.heap.size 5 i0 (.int .u8 0) 1 1 Tryf.underlying23 hi hz0 hz1 hz2 rfl _ ([by8 r.ty, 0] ++ o8 r.rd).length (bc ([by8 r.ty, 0] ++ o8 r.rd)) (by rfl) (by exact HR2.out.row) _ 10 (bc (o10 r.es)) (by rfl) (Src.view _ Tryf.underlying23 (some ⟨rb, ro + 9, none⟩) (o10 r.es) 10 (SX.out _ _ HX2.out).v10 (fun h => by cases h)) (by have := HA.out; unfold maxLen; simp [o8, o10, o6, b4, b3]; try omega) (by have := HA.out; simp [o8, o10, o6, b4, b3]; try omega) (by exact HR2.out.size) ?_); intro v3 w3 hown hext _ _; have HX3 : Hid (Ext w w3 v v3) := HX2.out.trans hext; have HR3 : Hid (Rw w0 w3 v3 ([by8 r.ty, 0] ++ o8 r.rd ++ o10 r.es)) := HR2.out.ext hext (OB.app hown rfl); clear hown hext; obtain ⟨b0, b19, b26, b27, b28, b36, b37, b38⟩ := (SX.out _ _ HX3.out).c; rw [HT.out] at b0)
    | (at_builtin; have _tok := HR1; go_must (refine wpList_append_any _ rfl (.tmp 16) (.tmp 20) 23 23 rfl w0.heap.size 5 i0 (.int .u8 0) 1 1 Tryf.underlying23 hi hz0 hz1 hz2 rfl _ ([by8 r.ty, 0]).length (bc ([by8 r.ty, 0])) (by rfl) (by exact HR1.out.row) _ 8 (bc (o8 r.rd)) (by rfl) (Src.view _ Tryf.underlying23 (some ⟨rb, ro + 1, none⟩) (o8 r.rd) 8 (SX.out _ _ HX1.out).v8 (fun h => by cases h)) (by have := HA.out; unfold maxLen; simp [o8, o10, o6, b4, b3]; try omega) (by have := HA.out; simp [o8, o10, o6, b4, b3]; try omega) (by exact HR1.out.size) ?_); intro v2 w2 hown hext _ _; have HX2 : Hid (Ext w w2 v v2) := HX1.out.trans hext; have HR2 : Hid (Rw w0 w2 v2 ([by8 r.ty, 0] ++ o8 r.rd)) := HR1.out.ext hext (OB.app hown rfl); clear hown hext; obtain ⟨b0, b19, b26, b27, b28, b36, b37, b38⟩ := (SX.out _ _ HX2.out).c; rw [HT.out] at b0)
    | (at_builtin; have _tok := HR0; go_must (refine wpList_append_any _ rfl (.tmp 7) (.tmp 12) 23 23 rfl w0.heap.size 5 i0 (.int .u8 0) 1 1 Tryf.underlying23 hi hz0 hz1 hz2 rfl _ ([] : List UInt8).length (bc ([] : List UInt8)) rfl (HR0.out.row.alloc _) _ 2 (bc [by8 r.ty, 0]) rfl (Src.litH _ Tryf.underlying23 [by8 r.ty, 0] _ 2 2 5 w.heap.size (by simp) (by rw [HB.out]) rfl) (by have := HA.out; unfold maxLen; simp [o8, o10, o6, b4, b3]; try omega) (by have := HA.out; simp [o8, o10, o6, b4, b3]; try omega) (by exact (HR0.out.alloc _).size) ?_); intro v1 w1 hown hext _ _; have HX1 : Hid (Ext w w1 v v1) := HX0.out.trans hext.of_alloc; have HR1 : Hid (Rw w0 w1 v1 ([by8 r.ty, 0])) := HR0.out.ext hext.of_alloc (by simpa using OB.app (l := []) hown rfl); clear hown hext; obtain ⟨b0, b19, b26, b27, b28, b36, b37, b38⟩ := (SX.out _ _ HX1.out).c; rw [HT.out] at b0; obtain ⟨g1, q1, hv1⟩ : ∃ g1 q1, v1 = .slice (some ⟨g1, 0, none⟩) 2 q1 := (by rcases HR1.out.row.form with h | ⟨g, c, h, _⟩; (exact absurd h.2 (by simp)); exact ⟨g, c, h⟩); subst hv1)
    | fail)
  obtain ⟨L, hL⟩ : ∃ L : List UInt8, L = ([by8 r.ty, 0] ++ o8 r.rd ++ o10 r.es ++ adOct r) := ⟨_, rfl⟩
  have HL : Hid (L = [by8 r.ty, 0] ++ r.rest) := by rw [Hid, hL]; unfold RI.rest; rw [if_neg (by rw [HT.out]; decide), if_neg (by rw [HT.out]; decide)]; simp [rest4]
  have HRL : Hid (Rw w0 w4 v4 L) := by rw [hL]; exact HR4.out
  have HO := Hid.mk'' (RI.oct_len r HOK.out)
  have HN0 : Hid (L.length = r.oct.length) := by rw [Hid, HL.out]; simp [RI.oct]
  obtain ⟨N, hN⟩ : ∃ N, N = L.length := ⟨_, rfl⟩
  have HN : Hid (L.length = N) := hN.symm
  obtain ⟨g, q, hv⟩ : ∃ g q, v4 = .slice (some ⟨g, 0, none⟩) N q := by
    rcases HRL.out.row.form with h | ⟨g, c, h, _⟩
    · exact absurd h.2 (by rw [HL.out]; simp)
    · rw [hN]; exact ⟨g, c, h⟩
  subst hv
  have i1 : (1 : Int) < (N : Int) := by have := HO.out; have := HN0.out; have := HN.out; have : 2 < L.length := (by rw [HL.out, List.length_append]; have : 8 ≤ r.rest.length := (by unfold RI.rest; split; split; all_goals (try split); all_goals simp [rest2, rest3, rest4, o8]; try omega); simp; omega); omega
  have i2 : (N : Int) ≤ 62 := by have := HO.out; have := HN0.out; have := HN.out; omega
  have i3 : 1 < N := by omega
  obtain ⟨z, hz⟩ : ∃ z : Int, z = ((by8 ((N : Int) - 2)).toNat : Int) := ⟨_, rfl⟩
  have hw : IntKind.u8.wrap ((N : Int) - 2) = z := by rw [hz, by8_nat _ (by omega) (by omega), IntKind.wrap_u8]; omega
  have HS : Hid (OB 5 w0.heap.size (w4.setCell ⟨g, 1, none⟩ (.int .u8 z)) (.slice (some ⟨g, 0, none⟩) N q) (L.set 1 (by8 ((N : Int) - 2)))) := by rw [hz]; exact (HRL.out.row.stored HN.out 1 _).1
  have HE : Hid (Ext w4 (w4.setCell ⟨g, 1, none⟩ (.int .u8 z)) (.slice (some ⟨g, 0, none⟩) N q) (.slice (some ⟨g, 0, none⟩) N q)) := by rw [hz]; exact Ext.stored HRL.out.row HN.out 1 _
  have c1 := HRL.out.row.cell 1 (by have := HN.out; omega)
  have f1 : w4.frozen? ⟨g, 1, none⟩ = false := HRL.out.row.frozenAt HN.out 1
  generalize ((L[1]'(by have := HN.out; omega)).toNat : Int) = z1 at c1
  clear hz hN hL
  go_wp2_with fail
  refine bodyPost_ret (v := .tuple #[.slice (some ⟨g, 0, none⟩) N q, .nilIface]) (by simp [results, Tryf.results40, go_sem]) rfl ?_
  refine ⟨_, rfl, ?_, HX4.out.trans HE.out⟩
  have e : L.set 1 (by8 ((N : Int) - 2)) = r.oct := by
    have h1 : ((N : Int) - 2) = (r.rest.length : Int) := by have := HN.out; rw [HL.out] at this; simp at this; omega
    rw [h1, HL.out]
    rfl
  rw [← e]
  exact HS.out

set_option maxRecDepth 100000 in
set_option maxHeartbeats 4000000 in
theorem nlri_2f (w0 : World) (p4 p6 : Addr) (r : RI) (rb ro : Nat) (v : Value) (w : World) (hz : Zs w0 p4 p6) (hok : r.ok) (hR : Rw w0 w v []) (hC : RC w rb ro (r.outs p4 p6)) (hne : v.ownBlock ≠ some rb) (hty : r.ty = 2) (hh : r.h2 = false) :
    Calls Tryf.prog 40 #[.pointer (some ⟨rb, ro, none⟩), v] w fun e w' => ∃ v', e = .returned (.tuple #[v', .nilIface]) ∧ OB 5 w0.heap.size w' v' r.oct ∧ Ext w w' v v' := by
  obtain ⟨i0, hi, hz0, hz1, hz2⟩ := info_parts Tryf.info5
  have HR0 := Hid.mk'' hR
  have HX0 := Hid.mk'' (Ext.refl w v)
  have HZ := Hid.mk'' hz
  have HOK := Hid.mk'' hok
  have HT : Hid (r.ty = 2) := hty
  have HA : Hid ((adOct r).length ≤ 17) := by have := adOct_len r hok; have := hok.n; show _ ≤ _; omega
  have SX : Hid (∀ W u, Ext w W v u → RC W rb ro (r.outs p4 p6)) := fun W u hx => hC.on hx.size (hx.block hC.1 hne)
  have HB : Hid (bc [by8 r.ty, 0] = [Value.int .u8 2, Value.int .u8 0]) := by
    rw [hty]; rfl
  have HH := Hid.mk'' hh
  obtain ⟨a0, a19, a26, a27, a28, a36, a37, a38⟩ := hC.c
  rw [hty] at a0
  clear hh
  clear hz hR hC hne hty hok a19 a26 a27 a28 a36 a37 a38
  go_enter Tryf.func40, Tryf.ntmps40
  go_wp2_with (first
    | (at_builtin; have _tok := HR2; go_must (refine wpList_append_any _ rfl (.tmp 35) (.tmp 39) 23 23 rfl w0.heap.size 5 i0 (.int .u8 0) 1 1 Tryf.underlying23 hi hz0 hz1 hz2 rfl _ ([by8 r.ty, 0] ++ o8 r.rd).length (bc ([by8 r.ty, 0] ++ o8 r.rd)) (by rfl) (by exact HR2.out.row) _ 10 (bc (o10 r.es)) (by rfl) (Src.view _ Tryf.underlying23 (some ⟨rb, ro + 9, none⟩) (o10 r.es) 10 (SX.out _ _ HX2.out).v10 (fun h => by cases h)) (by have := HA.out; unfold maxLen; simp [o8, o10, o6, b4, b3]; try omega) (by have := HA.out; simp [o8, o10, o6, b4, b3]; try omega) (by exact HR2.out.size) ?_); intro v3 w3 hown hext _ _; have HX3 : Hid (Ext w w3 v v3) := HX2.out.trans hext; have HR3 : Hid (Rw w0 w3 v3 ([by8 r.ty, 0] ++ o8 r.rd ++ o10 r.es)) := HR2.out.ext hext (OB.app hown rfl); clear hown hext; obtain ⟨b0, b19, b26, b27, b28, b36, b37, b38⟩ := (SX.out _ _ HX3.out).c; rw [HT.out] at b0; rw [HH.out] at b38)
    | (at_builtin; have _tok := HR1; go_must (refine wpList_append_any _ rfl (.tmp 16) (.tmp 20) 23 23 rfl w0.heap.size 5 i0 (.int .u8 0) 1 1 Tryf.underlying23 hi hz0 hz1 hz2 rfl _ ([by8 r.ty, 0]).length (bc ([by8 r.ty, 0])) (by rfl) (by exact HR1.out.row) _ 8 (bc (o8 r.rd)) (by rfl) (Src.view _ Tryf.underlying23 (some ⟨rb, ro + 1, none⟩) (o8 r.rd) 8 (SX.out _ _ HX1.out).v8 (fun h => by cases h)) (by have := HA.out; unfold maxLen; simp [o8, o10, o6, b4, b3]; try omega) (by have := HA.out; simp [o8, o10, o6, b4, b3]; try omega) (by exact HR1.out.size) ?_); intro v2 w2 hown hext _ _; have HX2 : Hid (Ext w w2 v v2) := HX1.out.trans hext; have HR2 : Hid (Rw w0 w2 v2 ([by8 r.ty, 0] ++ o8 r.rd)) := HR1.out.ext hext (OB.app hown rfl); clear hown hext; obtain ⟨b0, b19, b26, b27, b28, b36, b37, b38⟩ := (SX.out _ _ HX2.out).c; rw [HT.out] at b0; rw [HH.out] at b38)
    | (at_builtin; have _tok := HR0; go_must (refine wpList_append_any _ rfl (.tmp 7) (.tmp 12) 23 23 rfl w0.heap.size 5 i0 (.int .u8 0) 1 1 Tryf.underlying23 hi hz0 hz1 hz2 rfl _ ([] : List UInt8).length (bc ([] : List UInt8)) rfl (HR0.out.row.alloc _) _ 2 (bc [by8 r.ty, 0]) rfl (Src.litH _ Tryf.underlying23 [by8 r.ty, 0] _ 2 2 5 w.heap.size (by simp) (by rw [HB.out]) rfl) (by have := HA.out; unfold maxLen; simp [o8, o10, o6, b4, b3]; try omega) (by have := HA.out; simp [o8, o10, o6, b4, b3]; try omega) (by exact (HR0.out.alloc _).size) ?_); intro v1 w1 hown hext _ _; have HX1 : Hid (Ext w w1 v v1) := HX0.out.trans hext.of_alloc; have HR1 : Hid (Rw w0 w1 v1 ([by8 r.ty, 0])) := HR0.out.ext hext.of_alloc (by simpa using OB.app (l := []) hown rfl); clear hown hext; obtain ⟨b0, b19, b26, b27, b28, b36, b37, b38⟩ := (SX.out _ _ HX1.out).c; rw [HT.out] at b0; rw [HH.out] at b38; obtain ⟨g1, q1, hv1⟩ : ∃ g1 q1, v1 = .slice (some ⟨g1, 0, none⟩) 2 q1 := (by rcases HR1.out.row.form with h | ⟨g, c, h, _⟩; (exact absurd h.2 (by simp)); exact ⟨g, c, h⟩); subst hv1)
    | fail)
  go_region_held3 (fun w' => w'.cell? ⟨rb, ro + 19, none⟩ = some (.int .u32 r.tag)) ((first | go_keep | exact (SX.out _ _ HX4.out).c.2.1)) ((first
    | (go_at_call 53; refine (app32_any r.tag w0.heap.size _ ([by8 r.ty, 0] ++ o8 r.rd ++ o10 r.es) _ HOK.out.tag (by exact HR3.out.row) (by exact HR3.out.size) (by simp [o8, o10, o6, b4, b3])).mono ?_; rintro e w4 ⟨v4, rfl, hO, hE, -⟩; have HX4 : Hid (Ext w w4 v v4) := HX3.out.trans hE.of_drew; have HR4 : Hid (Rw w0 w4 v4 ([by8 r.ty, 0] ++ o8 r.rd ++ o10 r.es ++ b4 r.tag)) := HR3.out.ext hE.of_drew hO; clear hO hE)
    | fail))
  obtain ⟨b0, b19, b26, b27, b28, b36, b37, b38⟩ := (SX.out _ _ HX4.out).c
  rw [HT.out] at b0
  rw [HH.out] at b38
  go_upto_region 21 with (first
    | (go_at_call 55; have _tok := HR7; refine (lab_any r.l1 w0.heap.size _ ([by8 r.ty, 0] ++ o8 r.rd ++ o10 r.es ++ b4 r.tag ++ [48] ++ o6 r.mac ++ adOct r) _ HOK.out.l1 (by exact HR7.out.row) (by exact HR7.out.size) (by have := HA.out; simp [o8, o10, o6, b4, b3]; try omega)).mono ?_; rintro e w8 ⟨v8, rfl, hO, hE⟩; have HX8 : Hid (Ext w w8 v v8) := HX7.out.trans hE; have HR8 : Hid (Rw w0 w8 v8 ([by8 r.ty, 0] ++ o8 r.rd ++ o10 r.es ++ b4 r.tag ++ [48] ++ o6 r.mac ++ adOct r ++ b3 r.l1)) := HR7.out.ext hE hO; clear hO hE; obtain ⟨b0, b19, b26, b27, b28, b36, b37, b38⟩ := (SX.out _ _ HX8.out).c; rw [HT.out] at b0; rw [HH.out] at b38)
    | (go_at_call 54; have _tok := HR6; refine (addr_any w0 p4 p6 r.n r.ip _ ([by8 r.ty, 0] ++ o8 r.rd ++ o10 r.es ++ b4 r.tag ++ [48] ++ o6 r.mac) _ HZ.out HR6.out HOK.out.n (by have := HA.out; simp [o8, o10, o6, b4, b3])).mono ?_; rintro e w7 ⟨v7, rfl, hO, hE⟩; have HX7 : Hid (Ext w w7 v v7) := HX6.out.trans hE; have HR7 : Hid (Rw w0 w7 v7 ([by8 r.ty, 0] ++ o8 r.rd ++ o10 r.es ++ b4 r.tag ++ [48] ++ o6 r.mac ++ adOct r)) := HR6.out.ext hE hO; clear hO hE; obtain ⟨b0, b19, b26, b27, b28, b36, b37, b38⟩ := (SX.out _ _ HX7.out).c; rw [HT.out] at b0; rw [HH.out] at b38)
    | (at_builtin; have _tok := HR5; go_must (refine wpList_append_any _ rfl (.tmp 51) (.tmp 55) 23 23 rfl w0.heap.size 5 i0 (.int .u8 0) 1 1 Tryf.underlying23 hi hz0 hz1 hz2 rfl _ ([by8 r.ty, 0] ++ o8 r.rd ++ o10 r.es ++ b4 r.tag ++ [48]).length (bc ([by8 r.ty, 0] ++ o8 r.rd ++ o10 r.es ++ b4 r.tag ++ [48])) (by rfl) (by exact HR5.out.row) _ 6 (bc (o6 r.mac)) (by rfl) (Src.view _ Tryf.underlying23 (some ⟨rb, ro + 20, none⟩) (o6 r.mac) 6 (SX.out _ _ HX5.out).v6 (fun h => by cases h)) (by have := HA.out; unfold maxLen; simp [o8, o10, o6, b4, b3]; try omega) (by have := HA.out; simp [o8, o10, o6, b4, b3]; try omega) (by exact HR5.out.size) ?_); intro v6 w6 hown hext _ _; have HX6 : Hid (Ext w w6 v v6) := HX5.out.trans hext; have HR6 : Hid (Rw w0 w6 v6 ([by8 r.ty, 0] ++ o8 r.rd ++ o10 r.es ++ b4 r.tag ++ [48] ++ o6 r.mac)) := HR5.out.ext hext (OB.app hown rfl); clear hown hext; obtain ⟨b0, b19, b26, b27, b28, b36, b37, b38⟩ := (SX.out _ _ HX6.out).c; rw [HT.out] at b0; rw [HH.out] at b38)
    | (at_builtin; have _tok := HR4; go_must (refine wpList_append_any _ rfl (.tmp 48) (.tmp 49) 23 23 rfl w0.heap.size 5 i0 (.int .u8 0) 1 1 Tryf.underlying23 hi hz0 hz1 hz2 rfl _ ([by8 r.ty, 0] ++ o8 r.rd ++ o10 r.es ++ b4 r.tag).length (bc ([by8 r.ty, 0] ++ o8 r.rd ++ o10 r.es ++ b4 r.tag)) rfl (HR4.out.row.alloc _) _ 1 (bc [48]) rfl (Src.litH _ Tryf.underlying23 [48] _ 1 1 5 w4.heap.size (by simp) rfl rfl) (by have := HA.out; unfold maxLen; simp [o8, o10, o6, b4, b3]; try omega) (by have := HA.out; simp [o8, o10, o6, b4, b3]; try omega) (by exact (HR4.out.alloc _).size) ?_); intro v5 w5 hown hext _ _; have HX5 : Hid (Ext w w5 v v5) := HX4.out.trans hext.of_alloc; have HR5 : Hid (Rw w0 w5 v5 ([by8 r.ty, 0] ++ o8 r.rd ++ o10 r.es ++ b4 r.tag ++ [48])) := HR4.out.ext hext.of_alloc (OB.app hown rfl); clear hown hext; obtain ⟨b0, b19, b26, b27, b28, b36, b37, b38⟩ := (SX.out _ _ HX5.out).c; rw [HT.out] at b0; rw [HH.out] at b38)
    | fail)
  obtain ⟨L, hL⟩ : ∃ L : List UInt8, L = ([by8 r.ty, 0] ++ o8 r.rd ++ o10 r.es ++ b4 r.tag ++ [48] ++ o6 r.mac ++ adOct r ++ b3 r.l1) := ⟨_, rfl⟩
  have HL : Hid (L = [by8 r.ty, 0] ++ r.rest) := by rw [Hid, hL]; unfold RI.rest; rw [if_pos HT.out, if_neg (by rw [HH.out]; decide)]; simp [rest2]
  have HRL : Hid (Rw w0 w8 v8 L) := by rw [hL]; exact HR8.out
  have HO := Hid.mk'' (RI.oct_len r HOK.out)
  have HN0 : Hid (L.length = r.oct.length) := by rw [Hid, HL.out]; simp [RI.oct]
  obtain ⟨N, hN⟩ : ∃ N, N = L.length := ⟨_, rfl⟩
  have HN : Hid (L.length = N) := hN.symm
  obtain ⟨g, q, hv⟩ : ∃ g q, v8 = .slice (some ⟨g, 0, none⟩) N q := by
    rcases HRL.out.row.form with h | ⟨g, c, h, _⟩
    · exact absurd h.2 (by rw [HL.out]; simp)
    · rw [hN]; exact ⟨g, c, h⟩
  subst hv
  have i1 : (1 : Int) < (N : Int) := by have := HO.out; have := HN0.out; have := HN.out; have : 2 < L.length := (by rw [HL.out, List.length_append]; have : 8 ≤ r.rest.length := (by unfold RI.rest; split; split; all_goals (try split); all_goals simp [rest2, rest3, rest4, o8]; try omega); simp; omega); omega
  have i2 : (N : Int) ≤ 62 := by have := HO.out; have := HN0.out; have := HN.out; omega
  have i3 : 1 < N := by omega
  obtain ⟨z, hz⟩ : ∃ z : Int, z = ((by8 ((N : Int) - 2)).toNat : Int) := ⟨_, rfl⟩
  have hw : IntKind.u8.wrap ((N : Int) - 2) = z := by rw [hz, by8_nat _ (by omega) (by omega), IntKind.wrap_u8]; omega
  have HS : Hid (OB 5 w0.heap.size (w8.setCell ⟨g, 1, none⟩ (.int .u8 z)) (.slice (some ⟨g, 0, none⟩) N q) (L.set 1 (by8 ((N : Int) - 2)))) := by rw [hz]; exact (HRL.out.row.stored HN.out 1 _).1
  have HE : Hid (Ext w8 (w8.setCell ⟨g, 1, none⟩ (.int .u8 z)) (.slice (some ⟨g, 0, none⟩) N q) (.slice (some ⟨g, 0, none⟩) N q)) := by rw [hz]; exact Ext.stored HRL.out.row HN.out 1 _
  have c1 := HRL.out.row.cell 1 (by have := HN.out; omega)
  have f1 : w8.frozen? ⟨g, 1, none⟩ = false := HRL.out.row.frozenAt HN.out 1
  generalize ((L[1]'(by have := HN.out; omega)).toNat : Int) = z1 at c1
  clear hz hN hL
  go_wp2_with fail
  refine bodyPost_ret (v := .tuple #[.slice (some ⟨g, 0, none⟩) N q, .nilIface]) (by simp [results, Tryf.results40, go_sem]) rfl ?_
  refine ⟨_, rfl, ?_, HX8.out.trans HE.out⟩
  have e : L.set 1 (by8 ((N : Int) - 2)) = r.oct := by
    have h1 : ((N : Int) - 2) = (r.rest.length : Int) := by have := HN.out; rw [HL.out] at this; simp at this; omega
    rw [h1, HL.out]
    rfl
  rw [← e]
  exact HS.out

set_option maxRecDepth 100000 in
set_option maxHeartbeats 4000000 in
theorem nlri_2t (w0 : World) (p4 p6 : Addr) (r : RI) (rb ro : Nat) (v : Value) (w : World) (hz : Zs w0 p4 p6) (hok : r.ok) (hR : Rw w0 w v []) (hC : RC w rb ro (r.outs p4 p6)) (hne : v.ownBlock ≠ some rb) (hty : r.ty = 2) (hh : r.h2 = true) :
    Calls Tryf.prog 40 #[.pointer (some ⟨rb, ro, none⟩), v] w fun e w' => ∃ v', e = .returned (.tuple #[v', .nilIface]) ∧ OB 5 w0.heap.size w' v' r.oct ∧ Ext w w' v v' := by
  obtain ⟨i0, hi, hz0, hz1, hz2⟩ := info_parts Tryf.info5
  have HR0 := Hid.mk'' hR
  have HX0 := Hid.mk'' (Ext.refl w v)
  have HZ := Hid.mk'' hz
  have HOK := Hid.mk'' hok
  have HT : Hid (r.ty = 2) := hty
  have HA : Hid ((adOct r).length ≤ 17) := by have := adOct_len r hok; have := hok.n; show _ ≤ _; omega
  have SX : Hid (∀ W u, Ext w W v u → RC W rb ro (r.outs p4 p6)) := fun W u hx => hC.on hx.size (hx.block hC.1 hne)
  have HB : Hid (bc [by8 r.ty, 0] = [Value.int .u8 2, Value.int .u8 0]) := by
    rw [hty]; rfl
  have HH := Hid.mk'' hh
  obtain ⟨a0, a19, a26, a27, a28, a36, a37, a38⟩ := hC.c
  rw [hty] at a0
  clear hh
  clear hz hR hC hne hty hok a19 a26 a27 a28 a36 a37 a38
  go_enter Tryf.func40, Tryf.ntmps40
  go_wp2_with (first
    | (at_builtin; have _tok := HR2; go_must (refine wpList_append_any _ rfl (.tmp 35) (.tmp 39) 23 23 rfl w0.heap.size 5 i0 (.int .u8 0) 1 1 Tryf.underlying23 hi hz0 hz1 hz2 rfl _ ([by8 r.ty, 0] ++ o8 r.rd).length (bc ([by8 r.ty, 0] ++ o8 r.rd)) (by rfl) (by exact HR2.out.row) _ 10 (bc (o10 r.es)) (by rfl) (Src.view _ Tryf.underlying23 (some ⟨rb, ro + 9, none⟩) (o10 r.es) 10 (SX.out _ _ HX2.out).v10 (fun h => by cases h)) (by have := HA.out; unfold maxLen; simp [o8, o10, o6, b4, b3]; try omega) (by have := HA.out; simp [o8, o10, o6, b4, b3]; try omega) (by exact HR2.out.size) ?_); intro v3 w3 hown hext _ _; have HX3 : Hid (Ext w w3 v v3) := HX2.out.trans hext; have HR3 : Hid (Rw w0 w3 v3 ([by8 r.ty, 0] ++ o8 r.rd ++ o10 r.es)) := HR2.out.ext hext (OB.app hown rfl); clear hown hext; obtain ⟨b0, b19, b26, b27, b28, b36, b37, b38⟩ := (SX.out _ _ HX3.out).c; rw [HT.out] at b0; rw [HH.out] at b38)
    | (at_builtin; have _tok := HR1; go_must (refine wpList_append_any _ rfl (.tmp 16) (.tmp 20) 23 23 rfl w0.heap.size 5 i0 (.int .u8 0) 1 1 Tryf.underlying23 hi hz0 hz1 hz2 rfl _ ([by8 r.ty, 0]).length (bc ([by8 r.ty, 0])) (by rfl) (by exact HR1.out.row) _ 8 (bc (o8 r.rd)) (by rfl) (Src.view _ Tryf.underlying23 (some ⟨rb, ro + 1, none⟩) (o8 r.rd) 8 (SX.out _ _ HX1.out).v8 (fun h => by cases h)) (by have := HA.out; unfold maxLen; simp [o8, o10, o6, b4, b3]; try omega) (by have := HA.out; simp [o8, o10, o6, b4, b3]; try omega) (by exact HR1.out.size) ?_); intro v2 w2 hown hext _ _; have HX2 : Hid (Ext w w2 v v2) := HX1.out.trans hext; have HR2 : Hid (Rw w0 w2 v2 ([by8 r.ty, 0] ++ o8 r.rd)) := HR1.out.ext hext (OB.app hown rfl); clear hown hext; obtain ⟨b0, b19, b26, b27, b28, b36, b37, b38⟩ := (SX.out _ _ HX2.out).c; rw [HT.out] at b0; rw [HH.out] at b38)
    | (at_builtin; have _tok := HR0; go_must (refine wpList_append_any _ rfl (.tmp 7) (.tmp 12) 23 23 rfl w0.heap.size 5 i0 (.int .u8 0) 1 1 Tryf.underlying23 hi hz0 hz1 hz2 rfl _ ([] : List UInt8).length (bc ([] : List UInt8)) rfl (HR0.out.row.alloc _) _ 2 (bc [by8 r.ty, 0]) rfl (Src.litH _ Tryf.underlying23 [by8 r.ty, 0] _ 2 2 5 w.heap.size (by simp) (by rw [HB.out]) rfl) (by have := HA.out; unfold maxLen; simp [o8, o10, o6, b4, b3]; try omega) (by have := HA.out; simp [o8, o10, o6, b4, b3]; try omega) (by exact (HR0.out.alloc _).size) ?_); intro v1 w1 hown hext _ _; have HX1 : Hid (Ext w w1 v v1) := HX0.out.trans hext.of_alloc; have HR1 : Hid (Rw w0 w1 v1 ([by8 r.ty, 0])) := HR0.out.ext hext.of_alloc (by simpa using OB.app (l := []) hown rfl); clear hown hext; obtain ⟨b0, b19, b26, b27, b28, b36, b37, b38⟩ := (SX.out _ _ HX1.out).c; rw [HT.out] at b0; rw [HH.out] at b38; obtain ⟨g1, q1, hv1⟩ : ∃ g1 q1, v1 = .slice (some ⟨g1, 0, none⟩) 2 q1 := (by rcases HR1.out.row.form with h | ⟨g, c, h, _⟩; (exact absurd h.2 (by simp)); exact ⟨g, c, h⟩); subst hv1)
    | fail)
  go_region_held3 (fun w' => w'.cell? ⟨rb, ro + 19, none⟩ = some (.int .u32 r.tag)) ((first | go_keep | exact (SX.out _ _ HX4.out).c.2.1)) ((first
    | (go_at_call 53; refine (app32_any r.tag w0.heap.size _ ([by8 r.ty, 0] ++ o8 r.rd ++ o10 r.es) _ HOK.out.tag (by exact HR3.out.row) (by exact HR3.out.size) (by simp [o8, o10, o6, b4, b3])).mono ?_; rintro e w4 ⟨v4, rfl, hO, hE, -⟩; have HX4 : Hid (Ext w w4 v v4) := HX3.out.trans hE.of_drew; have HR4 : Hid (Rw w0 w4 v4 ([by8 r.ty, 0] ++ o8 r.rd ++ o10 r.es ++ b4 r.tag)) := HR3.out.ext hE.of_drew hO; clear hO hE)
    | fail))
  obtain ⟨b0, b19, b26, b27, b28, b36, b37, b38⟩ := (SX.out _ _ HX4.out).c
  rw [HT.out] at b0
  rw [HH.out] at b38
  go_upto_region 21 with (first
    | (go_at_call 55; have _tok := HR8; refine (lab_any r.l2 w0.heap.size _ ([by8 r.ty, 0] ++ o8 r.rd ++ o10 r.es ++ b4 r.tag ++ [48] ++ o6 r.mac ++ adOct r ++ b3 r.l1) _ HOK.out.l2 (by exact HR8.out.row) (by exact HR8.out.size) (by have := HA.out; simp [o8, o10, o6, b4, b3]; try omega)).mono ?_; rintro e w9 ⟨v9, rfl, hO, hE⟩; have HX9 : Hid (Ext w w9 v v9) := HX8.out.trans hE; have HR9 : Hid (Rw w0 w9 v9 ([by8 r.ty, 0] ++ o8 r.rd ++ o10 r.es ++ b4 r.tag ++ [48] ++ o6 r.mac ++ adOct r ++ b3 r.l1 ++ b3 r.l2)) := HR8.out.ext hE hO; clear hO hE; obtain ⟨b0, b19, b26, b27, b28, b36, b37, b38⟩ := (SX.out _ _ HX9.out).c; rw [HT.out] at b0; rw [HH.out] at b38)
    | (go_at_call 55; have _tok := HR7; refine (lab_any r.l1 w0.heap.size _ ([by8 r.ty, 0] ++ o8 r.rd ++ o10 r.es ++ b4 r.tag ++ [48] ++ o6 r.mac ++ adOct r) _ HOK.out.l1 (by exact HR7.out.row) (by exact HR7.out.size) (by have := HA.out; simp [o8, o10, o6, b4, b3]; try omega)).mono ?_; rintro e w8 ⟨v8, rfl, hO, hE⟩; have HX8 : Hid (Ext w w8 v v8) := HX7.out.trans hE; have HR8 : Hid (Rw w0 w8 v8 ([by8 r.ty, 0] ++ o8 r.rd ++ o10 r.es ++ b4 r.tag ++ [48] ++ o6 r.mac ++ adOct r ++ b3 r.l1)) := HR7.out.ext hE hO; clear hO hE; obtain ⟨b0, b19, b26, b27, b28, b36, b37, b38⟩ := (SX.out _ _ HX8.out).c; rw [HT.out] at b0; rw [HH.out] at b38)
    | (go_at_call 54; have _tok := HR6; refine (addr_any w0 p4 p6 r.n r.ip _ ([by8 r.ty, 0] ++ o8 r.rd ++ o10 r.es ++ b4 r.tag ++ [48] ++ o6 r.mac) _ HZ.out HR6.out HOK.out.n (by have := HA.out; simp [o8, o10, o6, b4, b3])).mono ?_; rintro e w7 ⟨v7, rfl, hO, hE⟩; have HX7 : Hid (Ext w w7 v v7) := HX6.out.trans hE; have HR7 : Hid (Rw w0 w7 v7 ([by8 r.ty, 0] ++ o8 r.rd ++ o10 r.es ++ b4 r.tag ++ [48] ++ o6 r.mac ++ adOct r)) := HR6.out.ext hE hO; clear hO hE; obtain ⟨b0, b19, b26, b27, b28, b36, b37, b38⟩ := (SX.out _ _ HX7.out).c; rw [HT.out] at b0; rw [HH.out] at b38)
    | (at_builtin; have _tok := HR5; go_must (refine wpList_append_any _ rfl (.tmp 51) (.tmp 55) 23 23 rfl w0.heap.size 5 i0 (.int .u8 0) 1 1 Tryf.underlying23 hi hz0 hz1 hz2 rfl _ ([by8 r.ty, 0] ++ o8 r.rd ++ o10 r.es ++ b4 r.tag ++ [48]).length (bc ([by8 r.ty, 0] ++ o8 r.rd ++ o10 r.es ++ b4 r.tag ++ [48])) (by rfl) (by exact HR5.out.row) _ 6 (bc (o6 r.mac)) (by rfl) (Src.view _ Tryf.underlying23 (some ⟨rb, ro + 20, none⟩) (o6 r.mac) 6 (SX.out _ _ HX5.out).v6 (fun h => by cases h)) (by have := HA.out; unfold maxLen; simp [o8, o10, o6, b4, b3]; try omega) (by have := HA.out; simp [o8, o10, o6, b4, b3]; try omega) (by exact HR5.out.size) ?_); intro v6 w6 hown hext _ _; have HX6 : Hid (Ext w w6 v v6) := HX5.out.trans hext; have HR6 : Hid (Rw w0 w6 v6 ([by8 r.ty, 0] ++ o8 r.rd ++ o10 r.es ++ b4 r.tag ++ [48] ++ o6 r.mac)) := HR5.out.ext hext (OB.app hown rfl); clear hown hext; obtain ⟨b0, b19, b26, b27, b28, b36, b37, b38⟩ := (SX.out _ _ HX6.out).c; rw [HT.out] at b0; rw [HH.out] at b38)
    | (at_builtin; have _tok := HR4; go_must (refine wpList_append_any _ rfl (.tmp 48) (.tmp 49) 23 23 rfl w0.heap.size 5 i0 (.int .u8 0) 1 1 Tryf.underlying23 hi hz0 hz1 hz2 rfl _ ([by8 r.ty, 0] ++ o8 r.rd ++ o10 r.es ++ b4 r.tag).length (bc ([by8 r.ty, 0] ++ o8 r.rd ++ o10 r.es ++ b4 r.tag)) rfl (HR4.out.row.alloc _) _ 1 (bc [48]) rfl (Src.litH _ Tryf.underlying23 [48] _ 1 1 5 w4.heap.size (by simp) rfl rfl) (by have := HA.out; unfold maxLen; simp [o8, o10, o6, b4, b3]; try omega) (by have := HA.out; simp [o8, o10, o6, b4, b3]; try omega) (by exact (HR4.out.alloc _).size) ?_); intro v5 w5 hown hext _ _; have HX5 : Hid (Ext w w5 v v5) := HX4.out.trans hext.of_alloc; have HR5 : Hid (Rw w0 w5 v5 ([by8 r.ty, 0] ++ o8 r.rd ++ o10 r.es ++ b4 r.tag ++ [48])) := HR4.out.ext hext.of_alloc (OB.app hown rfl); clear hown hext; obtain ⟨b0, b19, b26, b27, b28, b36, b37, b38⟩ := (SX.out _ _ HX5.out).c; rw [HT.out] at b0; rw [HH.out] at b38)
    | fail)
  obtain ⟨L, hL⟩ : ∃ L : List UInt8, L = ([by8 r.ty, 0] ++ o8 r.rd ++ o10 r.es ++ b4 r.tag ++ [48] ++ o6 r.mac ++ adOct r ++ b3 r.l1 ++ b3 r.l2) := ⟨_, rfl⟩
  have HL : Hid (L = [by8 r.ty, 0] ++ r.rest) := by rw [Hid, hL]; unfold RI.rest; rw [if_pos HT.out, if_pos HH.out]; simp [rest2]
  have HRL : Hid (Rw w0 w9 v9 L) := by rw [hL]; exact HR9.out
  have HO := Hid.mk'' (RI.oct_len r HOK.out)
  have HN0 : Hid (L.length = r.oct.length) := by rw [Hid, HL.out]; simp [RI.oct]
  obtain ⟨N, hN⟩ : ∃ N, N = L.length := ⟨_, rfl⟩
  have HN : Hid (L.length = N) := hN.symm
  obtain ⟨g, q, hv⟩ : ∃ g q, v9 = .slice (some ⟨g, 0, none⟩) N q := by
    rcases HRL.out.row.form with h | ⟨g, c, h, _⟩
    · exact absurd h.2 (by rw [HL.out]; simp)
    · rw [hN]; exact ⟨g, c, h⟩
  subst hv
  have i1 : (1 : Int) < (N : Int) := by have := HO.out; have := HN0.out; have := HN.out; have : 2 < L.length := (by rw [HL.out, List.length_append]; have : 8 ≤ r.rest.length := (by unfold RI.rest; split; split; all_goals (try split); all_goals simp [rest2, rest3, rest4, o8]; try omega); simp; omega); omega
  have i2 : (N : Int) ≤ 62 := by have := HO.out; have := HN0.out; have := HN.out; omega
  have i3 : 1 < N := by omega
  obtain ⟨z, hz⟩ : ∃ z : Int, z = ((by8 ((N : Int) - 2)).toNat : Int) := ⟨_, rfl⟩
  have hw : IntKind.u8.wrap ((N : Int) - 2) = z := by rw [hz, by8_nat _ (by omega) (by omega), IntKind.wrap_u8]; omega
  have HS : Hid (OB 5 w0.heap.size (w9.setCell ⟨g, 1, none⟩ (.int .u8 z)) (.slice (some ⟨g, 0, none⟩) N q) (L.set 1 (by8 ((N : Int) - 2)))) := by rw [hz]; exact (HRL.out.row.stored HN.out 1 _).1
  have HE : Hid (Ext w9 (w9.setCell ⟨g, 1, none⟩ (.int .u8 z)) (.slice (some ⟨g, 0, none⟩) N q) (.slice (some ⟨g, 0, none⟩) N q)) := by rw [hz]; exact Ext.stored HRL.out.row HN.out 1 _
  have c1 := HRL.out.row.cell 1 (by have := HN.out; omega)
  have f1 : w9.frozen? ⟨g, 1, none⟩ = false := HRL.out.row.frozenAt HN.out 1
  generalize ((L[1]'(by have := HN.out; omega)).toNat : Int) = z1 at c1
  clear hz hN hL
  go_wp2_with fail
  refine bodyPost_ret (v := .tuple #[.slice (some ⟨g, 0, none⟩) N q, .nilIface]) (by simp [results, Tryf.results40, go_sem]) rfl ?_
  refine ⟨_, rfl, ?_, HX9.out.trans HE.out⟩
  have e : L.set 1 (by8 ((N : Int) - 2)) = r.oct := by
    have h1 : ((N : Int) - 2) = (r.rest.length : Int) := by have := HN.out; rw [HL.out] at this; simp at this; omega
    rw [h1, HL.out]
    rfl
  rw [← e]
  exact HS.out

theorem nlri_any (w0 : World) (p4 p6 : Addr) (r : RI) (rb ro : Nat) (v : Value) (w : World) (hz : Zs w0 p4 p6) (hok : r.ok) (hR : Rw w0 w v []) (hC : RC w rb ro (r.outs p4 p6)) (hne : v.ownBlock ≠ some rb) :
    Calls Tryf.prog 40 #[.pointer (some ⟨rb, ro, none⟩), v] w fun e w' => ∃ v', e = .returned (.tuple #[v', .nilIface]) ∧ OB 5 w0.heap.size w' v' r.oct ∧ Ext w w' v v' := by
  rcases hok.ty with h | h | h
  · cases hh : r.h2
    · exact nlri_2f w0 p4 p6 r rb ro v w hz hok hR hC hne h hh
    · exact nlri_2t w0 p4 p6 r rb ro v w hz hok hR hC hne h hh
  · exact nlri_3 w0 p4 p6 r rb ro v w hz hok hR hC hne h
  · exact nlri_4 w0 p4 p6 r rb ro v w hz hok hR hC hne h

end Go.Proofs.Qxb6003713aFmt
