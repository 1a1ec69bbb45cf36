import Derived.Test.Qxb6003778aFmtAnH
import Derived.Test.Qxb6003778aFmtAnI
import Derived.Test.Qxb6003778aFmtAnJ
import Derived.Test.Qxb6003778aFmtAnK
import Derived.Test.Qxb6003778aFmtAnL
import Derived.Test.Qxb6003778aFmtReB
import Derived.Test.Qxb6003778aFmtReC
import Derived.Test.Qxb6003778aFmtReD
import Derived.Test.Qxb6003778aFmtReE
import Derived.Test.Qxb6003778aFmtRfA
import Derived.Test.Qxb6003778aFmtRfB
import Derived.Test.Qxb6003778aFmtRfC
import Derived.Test.Qxb6003778aFmtRfD
import Derived.Test.Qxb6003778aFmtPuA
namespace Go.Proofs.Qxb6003778aFmt
open Go.RowKit Go.Extern.Stop Go.Stop Go.Extern
set_option linter.unusedVariables false
set_option linter.unusedSimpArgs false

/-- The parts of an address of kind n. -/
def aHi (n : Nat) (o : Nat → UInt8) : Nat := if n = 4 then 0 else if n = 6 then be8 o else 0
def aLo (n : Nat) (o : Nat → UInt8) : Nat := if n = 4 then lo4 o else if n = 6 then be8 (fun i => o (8 + i)) else 0
def aZ (p4 p6 : Addr) (n : Nat) : Option Addr := if n = 4 then some p4 else if n = 6 then some p6 else none
theorem addr_parts (p4 p6 : Addr) (n : Nat) (o : Nat → UInt8) : addrOf p4 p6 n o = .agg #[.int .u64 (aHi n o : Nat), .int .u64 (aLo n o : Nat), .pointer (aZ p4 p6 n)] := by
  unfold addrOf aHi aLo aZ
  split
  · rfl
  · split <;> rfl
theorem zaddr_c (p4 p6 : Addr) (n : Nat) (xs : Array Value) (o : Nat → UInt8) (w : World) (hz : Zs w p4 p6) (hx : Oct xs 16 o) :
    Calls Tryf.prog 4 #[.int .u8 n, .agg xs] w fun e w' => e = .returned (.agg #[.int .u64 (aHi n o : Nat), .int .u64 (aLo n o : Nat), .pointer (aZ p4 p6 n)]) ∧ Below w.heap.size w w' := by
  rw [← addr_parts]
  exact zaddr_any p4 p6 n xs o w hz hx

theorem is4_c (p4 p6 : Addr) (n : Nat) (o : Nat → UInt8) (b : Bool) (hb : decide (n = 4) = b) : IsB 14 b p4 p6 (AV (aHi n o) (aLo n o) (aZ p4 p6 n)) := by
  intro W hz
  have h := is4_any p4 p6 n o W hz
  rw [addr_parts, hb] at h
  exact h
theorem is6_c (p4 p6 : Addr) (n : Nat) (o : Nat → UInt8) (b : Bool) (hb : decide (n = 6) = b) : IsB 15 b p4 p6 (AV (aHi n o) (aLo n o) (aZ p4 p6 n)) := by
  intro W hz
  have h := is6_any p4 p6 n o W hz
  rw [addr_parts, hb] at h
  exact h
theorem str_c (p4 p6 : Addr) (n : Nat) (o : Nat → UInt8) : ∀ W, Zs W p4 p6 → Calls Tryf.prog 22 #[AV (aHi n o) (aLo n o) (aZ p4 p6 n)] W (Texted W) := by
  intro W hz
  have h := str_any p4 p6 n o W hz
  rw [addr_parts] at h
  exact h

/-- The message that the root lays. -/
abbrev msgN (pa la n1 n2 : Nat) (o1 o2 : Nat → UInt8) (lc a4 : Bool) (p4 p6 : Addr) (d : Value) : Array Value :=
  msgOf pa la (aHi n1 o1) (aLo n1 o1) (aZ p4 p6 n1) (aHi n2 o2) (aLo n2 o2) (aZ p4 p6 n2) lc a4 d

/-- Where the families differ, or an AS does not fit. -/
theorem record_bad (F : Interp) (mb pa la n1 n2 : Nat) (o1 o2 : Nat → UInt8) (lc a4 : Bool) (d : Value) (ts : Int) (p4 p6 : Addr) (w : World) (hF : F.answers w.tape) (hz : Zs w p4 p6)
    (hM : Blk w mb 36 (msgN pa la n1 n2 o1 o2 lc a4 p4 p6 d)) (hpa : pa < 4294967296) (hla : la < 4294967296)
    (hbad : ¬ ((n1 = 4 ∧ n2 = 4 ∨ n1 = 6 ∧ n2 = 6) ∧ (a4 = true ∨ pa < 65536 ∧ la < 65536))) :
    Calls Tryf.prog 6 #[.pointer (some ⟨mb, 0, none⟩), .int .u32 ts] w (NotRecorded w) := by
  by_cases ha : a4 = true ∨ pa < 65536 ∧ la < 65536
  · have hn : ¬ (n1 = 4 ∧ n2 = 4 ∨ n1 = 6 ∧ n2 = 6) := fun h => hbad ⟨h, ha⟩
    by_cases h4 : n1 = 4
    · have k1 := is4_c p4 p6 n1 o1 true (decide_eq_true h4)
      have k2 := is4_c p4 p6 n2 o2 false (decide_eq_false (by omega))
      have k3 := is6_c p4 p6 n1 o1 false (decide_eq_false (by omega))
      cases a4 <;> cases lc
      · exact fail_ff4 F mb pa la _ _ _ _ _ _ d ts p4 p6 w hF hz hM (by simpa using (ha.resolve_left (by decide)).1) (by simpa using (ha.resolve_left (by decide)).2) k1 k2 k3 (str_c p4 p6 n1 o1) (str_c p4 p6 n2 o2)
      · exact fail_tf4 F mb pa la _ _ _ _ _ _ d ts p4 p6 w hF hz hM (by simpa using (ha.resolve_left (by decide)).1) (by simpa using (ha.resolve_left (by decide)).2) k1 k2 k3 (str_c p4 p6 n1 o1) (str_c p4 p6 n2 o2)
      · exact fail_ft4 F mb pa la _ _ _ _ _ _ d ts p4 p6 w hF hz hM (by omega) (by omega) k1 k2 k3 (str_c p4 p6 n1 o1) (str_c p4 p6 n2 o2)
      · exact fail_tt4 F mb pa la _ _ _ _ _ _ d ts p4 p6 w hF hz hM (by omega) (by omega) k1 k2 k3 (str_c p4 p6 n1 o1) (str_c p4 p6 n2 o2)
    · have k1 := is4_c p4 p6 n1 o1 false (decide_eq_false h4)
      by_cases h6 : n1 = 6
      · have k2 := is6_c p4 p6 n1 o1 true (decide_eq_true h6)
        have k3 := is6_c p4 p6 n2 o2 false (decide_eq_false (by omega))
        cases a4 <;> cases lc
        · exact fail_ff6 F mb pa la _ _ _ _ _ _ d ts p4 p6 w hF hz hM (by simpa using (ha.resolve_left (by decide)).1) (by simpa using (ha.resolve_left (by decide)).2) k1 k2 k3 (str_c p4 p6 n1 o1) (str_c p4 p6 n2 o2)
        · exact fail_tf6 F mb pa la _ _ _ _ _ _ d ts p4 p6 w hF hz hM (by simpa using (ha.resolve_left (by decide)).1) (by simpa using (ha.resolve_left (by decide)).2) k1 k2 k3 (str_c p4 p6 n1 o1) (str_c p4 p6 n2 o2)
        · exact fail_ft6 F mb pa la _ _ _ _ _ _ d ts p4 p6 w hF hz hM (by omega) (by omega) k1 k2 k3 (str_c p4 p6 n1 o1) (str_c p4 p6 n2 o2)
        · exact fail_tt6 F mb pa la _ _ _ _ _ _ d ts p4 p6 w hF hz hM (by omega) (by omega) k1 k2 k3 (str_c p4 p6 n1 o1) (str_c p4 p6 n2 o2)
      · have k2 := is6_c p4 p6 n1 o1 false (decide_eq_false h6)
        cases a4 <;> cases lc
        · exact fail_ff0 F mb pa la _ _ _ _ _ _ d ts p4 p6 w hF hz hM (by simpa using (ha.resolve_left (by decide)).1) (by simpa using (ha.resolve_left (by decide)).2) k1 k2 (str_c p4 p6 n1 o1) (str_c p4 p6 n2 o2)
        · exact fail_tf0 F mb pa la _ _ _ _ _ _ d ts p4 p6 w hF hz hM (by simpa using (ha.resolve_left (by decide)).1) (by simpa using (ha.resolve_left (by decide)).2) k1 k2 (str_c p4 p6 n1 o1) (str_c p4 p6 n2 o2)
        · exact fail_ft0 F mb pa la _ _ _ _ _ _ d ts p4 p6 w hF hz hM (by omega) (by omega) k1 k2 (str_c p4 p6 n1 o1) (str_c p4 p6 n2 o2)
        · exact fail_tt0 F mb pa la _ _ _ _ _ _ d ts p4 p6 w hF hz hM (by omega) (by omega) k1 k2 (str_c p4 p6 n1 o1) (str_c p4 p6 n2 o2)
  · have h0 : a4 = false := by
      cases a4
      · rfl
      · exact absurd (Or.inl rfl) ha
    subst h0
    by_cases hp : pa < 65536
    · cases lc
      · exact big_fl F mb pa la _ _ _ _ _ _ d ts w hF hM (by omega) (by omega)
      · exact big_tl F mb pa la _ _ _ _ _ _ d ts w hF hM (by omega) (by omega)
    · cases lc
      · exact big_fp F mb pa la _ _ _ _ _ _ d ts w hF hM (by omega)
      · exact big_tp F mb pa la _ _ _ _ _ _ d ts w hF hM (by omega)

/-- The subtype that Record writes. -/
def subOf (lc a4 : Bool) : Int := if lc then (if a4 then 7 else 6) else (if a4 then 4 else 1)

/-- Message of the record gives back what was recorded. -/
def Back (pa la n : Nat) (o1 o2 : Nat → UInt8) (lc a4 : Bool) (dat : List UInt8) (ts : Int) (p4 p6 : Addr) (g c len : Nat) (w : World) : Prop :=
  ∀ W rb, Below w.heap.size w W → Blk W rb 40 (recOf ts (subOf lc a4) (.slice (some ⟨g, 0, none⟩) len c)) →
    Calls Tryf.prog 7 #[.pointer (some ⟨rb, 0, none⟩)] W fun e w' => ∃ x cc, e = .returned (.tuple #[.agg (msgOf pa la (aHi n o1) (aLo n o1) (aZ p4 p6 n) (aHi n o2) (aLo n o2) (aZ p4 p6 n) lc a4 (.slice (some ⟨g, x, none⟩) dat.length cc)), .nilIface]) ∧
      View w' (some ⟨g, x, none⟩) (bc dat) ∧ Below W.heap.size W w'

theorem view_tail {w : World} {g : Nat} {l1 l2 : List UInt8} {x : Nat} (h : View w (some ⟨g, 0, none⟩) (bc (l1 ++ l2))) (hx : x = l1.length ∨ l2 = []) : View w (some ⟨g, x, none⟩) (bc l2) := by
  by_cases h0 : l2 = []
  · subst h0; exact View.nil _ _
  have hx := hx.resolve_right h0
  subst hx
  have hpos : 0 < (bc (l1 ++ l2)).length := by
    rw [bc_length, List.length_append]
    have := List.length_pos_iff.mpr h0
    omega
  obtain ⟨b, off, hao, hlt, hc⟩ := h.at hpos
  simp only [Option.some.injEq, Addr.mk.injEq] at hao
  obtain ⟨rfl, rfl, _⟩ := hao
  refine .inr ⟨g, l1.length, rfl, hlt, fun j u hu => ?_⟩
  have h2 := hc (l1.length + j) u (by
    show (bc (l1 ++ l2))[l1.length + j]? = some u
    unfold bc at hu ⊢
    rw [List.map_append, List.getElem?_append_right (by simp)]
    simpa using hu)
  simpa using h2

theorem view_bytes {w : World} {g : Nat} {l : List UInt8} (h : View w (some ⟨g, 0, none⟩) (bc l)) : ∀ i, i < l.length → w.cell? ⟨g, 0 + i, none⟩ = some (.int .u8 (l.getD i 0).toNat) := by
  intro i hi
  have hpos : i < (bc l).length := by rw [bc_length]; exact hi
  obtain ⟨b, off, hao, hlt, hc⟩ := h.at hpos
  simp only [Option.some.injEq, Addr.mk.injEq] at hao
  obtain ⟨rfl, rfl, _⟩ := hao
  refine hc i _ ?_
  unfold bc
  rw [List.getElem?_map, List.getElem?_eq_getElem hi]
  simp [List.getD_eq_getElem?_getD, List.getElem?_eq_getElem hi]

theorem back_ff4 (pa la : Nat) (o1 o2 : Nat → UInt8) (dat : List UInt8) (ts : Int) (p4 p6 : Addr) (g c : Nat) (w : World) (hz : Zs w p4 p6) (hpa : pa < 65536) (hla : la < 65536)
    (hV : View w (some ⟨g, 0, none⟩) (bc (be16 (pa : Int) ++ be16 (la : Int) ++ [0, 0] ++ be16 1 ++ b4 (lo4 o1 % 4294967296) ++ b4 (lo4 o2 % 4294967296) ++ dat))) (hc : (be16 (pa : Int) ++ be16 (la : Int) ++ [0, 0] ++ be16 1 ++ b4 (lo4 o1 % 4294967296) ++ b4 (lo4 o2 % 4294967296) ++ dat).length ≤ c) (hm : c ≤ maxLen) :
    Back pa la 4 o1 o2 false false dat ts p4 p6 g c (be16 (pa : Int) ++ be16 (la : Int) ++ [0, 0] ++ be16 1 ++ b4 (lo4 o1 % 4294967296) ++ b4 (lo4 o2 % 4294967296) ++ dat).length w := by
  intro W rb hb hB
  obtain ⟨body, hbody⟩ : ∃ body, body = be16 (pa : Int) ++ be16 (la : Int) ++ [0, 0] ++ be16 1 ++ b4 (lo4 o1 % 4294967296) ++ b4 (lo4 o2 % 4294967296) ++ dat := ⟨_, rfl⟩
  obtain ⟨bb, hbb⟩ : ∃ bb : Nat → UInt8, bb = fun i => (be16 (pa : Int) ++ be16 (la : Int) ++ [0, 0] ++ be16 1 ++ b4 (lo4 o1 % 4294967296) ++ b4 (lo4 o2 % 4294967296) ++ dat).getD i 0 := ⟨_, rfl⟩
  have hlen : (be16 (pa : Int) ++ be16 (la : Int) ++ [0, 0] ++ be16 1 ++ b4 (lo4 o1 % 4294967296) ++ b4 (lo4 o2 % 4294967296) ++ dat).length = 16 + dat.length := by
    rw [List.length_append]; rfl
  have hV' := hV.all hb
  have hcl := view_bytes hV'
  have h1 : (bb 6).toNat = 0 := by subst hbb; rfl
  have h2 : (bb 7).toNat = 1 := by subst hbb; rfl
  have hcl2 : ∀ i, i < 16 + dat.length → W.cell? ⟨g, 0 + i, none⟩ = some (.int .u8 (bb i).toNat) := by
    intro i hi
    have := hcl i (by rw [hlen]; exact hi)
    rw [hbb]; exact this
  rw [hlen] at hc hB
  have hzW := hz.later hb
  have hP := fun (w' : World) (hb' : Below W.heap.size W w') =>
    peers_f4 rb ts 1 g 0 (16 + dat.length) c bb ⟨#[109, 101, 115, 115, 97, 103, 101]⟩ p4 p6 w' (hzW.later hb') ((hb'.block _ hB.lt).trans hB) (by omega) hc hm (fun i hi => cell_later hb' (hcl2 i hi)) h1 h2
  have hM := message_1 rb ts _ _ _ _ _ _ _ _ _ g _ _ (fun x => x = 0 + 8 + 8 ∨ 16 + dat.length = 16) W hB hP
  have e1 : be2 bb = pa := by
    subst hbb
    exact be2_be16 pa hpa _ (fun i hi => by match i, hi with | 0, _ => rfl | 1, _ => rfl)
  have e2 : be2 (fun i => bb (2 + i)) = la := by
    subst hbb
    exact be2_be16 la hla _ (fun i hi => by match i, hi with | 0, _ => rfl | 1, _ => rfl)
  have e3 : lo4 (fun i => bb (8 + i)) = lo4 o1 := by subst hbb; exact lo4_b4 o1 _ (fun i hi => by match i, hi with | 0, _ => rfl | 1, _ => rfl | 2, _ => rfl | 3, _ => rfl)
  have e4 : lo4 (fun i => bb (12 + i)) = lo4 o2 := by subst hbb; exact lo4_b4 o2 _ (fun i hi => by match i, hi with | 0, _ => rfl | 1, _ => rfl | 2, _ => rfl | 3, _ => rfl)
  rw [e1, e2, e3, e4] at hM
  refine hM.mono ?_
  rintro e w2 ⟨x, rfl, hq, hb2⟩
  have hd : 16 + dat.length - 8 - 8 = dat.length := by omega
  rw [hd]
  refine ⟨x, _, rfl, ?_, hb2⟩
  refine (view_tail hV' ?_).all hb2
  rcases hq with hq | hq
  · exact .inl hq
  · exact .inr (List.length_eq_zero_iff.mp (by omega))

theorem back_tf4 (pa la : Nat) (o1 o2 : Nat → UInt8) (dat : List UInt8) (ts : Int) (p4 p6 : Addr) (g c : Nat) (w : World) (hz : Zs w p4 p6) (hpa : pa < 65536) (hla : la < 65536)
    (hV : View w (some ⟨g, 0, none⟩) (bc (be16 (pa : Int) ++ be16 (la : Int) ++ [0, 0] ++ be16 1 ++ b4 (lo4 o1 % 4294967296) ++ b4 (lo4 o2 % 4294967296) ++ dat))) (hc : (be16 (pa : Int) ++ be16 (la : Int) ++ [0, 0] ++ be16 1 ++ b4 (lo4 o1 % 4294967296) ++ b4 (lo4 o2 % 4294967296) ++ dat).length ≤ c) (hm : c ≤ maxLen) :
    Back pa la 4 o1 o2 true false dat ts p4 p6 g c (be16 (pa : Int) ++ be16 (la : Int) ++ [0, 0] ++ be16 1 ++ b4 (lo4 o1 % 4294967296) ++ b4 (lo4 o2 % 4294967296) ++ dat).length w := by
  intro W rb hb hB
  obtain ⟨body, hbody⟩ : ∃ body, body = be16 (pa : Int) ++ be16 (la : Int) ++ [0, 0] ++ be16 1 ++ b4 (lo4 o1 % 4294967296) ++ b4 (lo4 o2 % 4294967296) ++ dat := ⟨_, rfl⟩
  obtain ⟨bb, hbb⟩ : ∃ bb : Nat → UInt8, bb = fun i => (be16 (pa : Int) ++ be16 (la : Int) ++ [0, 0] ++ be16 1 ++ b4 (lo4 o1 % 4294967296) ++ b4 (lo4 o2 % 4294967296) ++ dat).getD i 0 := ⟨_, rfl⟩
  have hlen : (be16 (pa : Int) ++ be16 (la : Int) ++ [0, 0] ++ be16 1 ++ b4 (lo4 o1 % 4294967296) ++ b4 (lo4 o2 % 4294967296) ++ dat).length = 16 + dat.length := by
    rw [List.length_append]; rfl
  have hV' := hV.all hb
  have hcl := view_bytes hV'
  have h1 : (bb 6).toNat = 0 := by subst hbb; rfl
  have h2 : (bb 7).toNat = 1 := by subst hbb; rfl
  have hcl2 : ∀ i, i < 16 + dat.length → W.cell? ⟨g, 0 + i, none⟩ = some (.int .u8 (bb i).toNat) := by
    intro i hi
    have := hcl i (by rw [hlen]; exact hi)
    rw [hbb]; exact this
  rw [hlen] at hc hB
  have hzW := hz.later hb
  have hP := fun (w' : World) (hb' : Below W.heap.size W w') =>
    peers_f4 rb ts 6 g 0 (16 + dat.length) c bb ⟨#[109, 101, 115, 115, 97, 103, 101]⟩ p4 p6 w' (hzW.later hb') ((hb'.block _ hB.lt).trans hB) (by omega) hc hm (fun i hi => cell_later hb' (hcl2 i hi)) h1 h2
  have hM := message_6 rb ts _ _ _ _ _ _ _ _ _ g _ _ (fun x => x = 0 + 8 + 8 ∨ 16 + dat.length = 16) W hB hP
  have e1 : be2 bb = pa := by
    subst hbb
    exact be2_be16 pa hpa _ (fun i hi => by match i, hi with | 0, _ => rfl | 1, _ => rfl)
  have e2 : be2 (fun i => bb (2 + i)) = la := by
    subst hbb
    exact be2_be16 la hla _ (fun i hi => by match i, hi with | 0, _ => rfl | 1, _ => rfl)
  have e3 : lo4 (fun i => bb (8 + i)) = lo4 o1 := by subst hbb; exact lo4_b4 o1 _ (fun i hi => by match i, hi with | 0, _ => rfl | 1, _ => rfl | 2, _ => rfl | 3, _ => rfl)
  have e4 : lo4 (fun i => bb (12 + i)) = lo4 o2 := by subst hbb; exact lo4_b4 o2 _ (fun i hi => by match i, hi with | 0, _ => rfl | 1, _ => rfl | 2, _ => rfl | 3, _ => rfl)
  rw [e1, e2, e3, e4] at hM
  refine hM.mono ?_
  rintro e w2 ⟨x, rfl, hq, hb2⟩
  have hd : 16 + dat.length - 8 - 8 = dat.length := by omega
  rw [hd]
  refine ⟨x, _, rfl, ?_, hb2⟩
  refine (view_tail hV' ?_).all hb2
  rcases hq with hq | hq
  · exact .inl hq
  · exact .inr (List.length_eq_zero_iff.mp (by omega))

theorem back_ft4 (pa la : Nat) (o1 o2 : Nat → UInt8) (dat : List UInt8) (ts : Int) (p4 p6 : Addr) (g c : Nat) (w : World) (hz : Zs w p4 p6) (hpa : pa < 4294967296) (hla : la < 4294967296)
    (hV : View w (some ⟨g, 0, none⟩) (bc (b4 pa ++ b4 la ++ [0, 0] ++ be16 1 ++ b4 (lo4 o1 % 4294967296) ++ b4 (lo4 o2 % 4294967296) ++ dat))) (hc : (b4 pa ++ b4 la ++ [0, 0] ++ be16 1 ++ b4 (lo4 o1 % 4294967296) ++ b4 (lo4 o2 % 4294967296) ++ dat).length ≤ c) (hm : c ≤ maxLen) :
    Back pa la 4 o1 o2 false true dat ts p4 p6 g c (b4 pa ++ b4 la ++ [0, 0] ++ be16 1 ++ b4 (lo4 o1 % 4294967296) ++ b4 (lo4 o2 % 4294967296) ++ dat).length w := by
  intro W rb hb hB
  obtain ⟨body, hbody⟩ : ∃ body, body = b4 pa ++ b4 la ++ [0, 0] ++ be16 1 ++ b4 (lo4 o1 % 4294967296) ++ b4 (lo4 o2 % 4294967296) ++ dat := ⟨_, rfl⟩
  obtain ⟨bb, hbb⟩ : ∃ bb : Nat → UInt8, bb = fun i => (b4 pa ++ b4 la ++ [0, 0] ++ be16 1 ++ b4 (lo4 o1 % 4294967296) ++ b4 (lo4 o2 % 4294967296) ++ dat).getD i 0 := ⟨_, rfl⟩
  have hlen : (b4 pa ++ b4 la ++ [0, 0] ++ be16 1 ++ b4 (lo4 o1 % 4294967296) ++ b4 (lo4 o2 % 4294967296) ++ dat).length = 20 + dat.length := by
    rw [List.length_append]; rfl
  have hV' := hV.all hb
  have hcl := view_bytes hV'
  have h1 : (bb 10).toNat = 0 := by subst hbb; rfl
  have h2 : (bb 11).toNat = 1 := by subst hbb; rfl
  have hcl2 : ∀ i, i < 20 + dat.length → W.cell? ⟨g, 0 + i, none⟩ = some (.int .u8 (bb i).toNat) := by
    intro i hi
    have := hcl i (by rw [hlen]; exact hi)
    rw [hbb]; exact this
  rw [hlen] at hc hB
  have hzW := hz.later hb
  have hP := fun (w' : World) (hb' : Below W.heap.size W w') =>
    peers_t4 rb ts 4 g 0 (20 + dat.length) c bb ⟨#[109, 101, 115, 115, 97, 103, 101]⟩ p4 p6 w' (hzW.later hb') ((hb'.block _ hB.lt).trans hB) (by omega) hc hm (fun i hi => cell_later hb' (hcl2 i hi)) h1 h2
  have hM := message_4 rb ts _ _ _ _ _ _ _ _ _ g _ _ (fun x => x = 0 + 12 + 8 ∨ 20 + dat.length = 20) W hB hP
  have e1 : be4 bb = pa := by
    subst hbb
    exact be4_b4 pa hpa _ (fun i hi => by match i, hi with | 0, _ => rfl | 1, _ => rfl | 2, _ => rfl | 3, _ => rfl)
  have e2 : be4 (fun i => bb (4 + i)) = la := by
    subst hbb
    exact be4_b4 la hla _ (fun i hi => by match i, hi with | 0, _ => rfl | 1, _ => rfl | 2, _ => rfl | 3, _ => rfl)
  have e3 : lo4 (fun i => bb (12 + i)) = lo4 o1 := by subst hbb; exact lo4_b4 o1 _ (fun i hi => by match i, hi with | 0, _ => rfl | 1, _ => rfl | 2, _ => rfl | 3, _ => rfl)
  have e4 : lo4 (fun i => bb (16 + i)) = lo4 o2 := by subst hbb; exact lo4_b4 o2 _ (fun i hi => by match i, hi with | 0, _ => rfl | 1, _ => rfl | 2, _ => rfl | 3, _ => rfl)
  rw [e1, e2, e3, e4] at hM
  refine hM.mono ?_
  rintro e w2 ⟨x, rfl, hq, hb2⟩
  have hd : 20 + dat.length - 12 - 8 = dat.length := by omega
  rw [hd]
  refine ⟨x, _, rfl, ?_, hb2⟩
  refine (view_tail hV' ?_).all hb2
  rcases hq with hq | hq
  · exact .inl hq
  · exact .inr (List.length_eq_zero_iff.mp (by omega))

theorem back_tt4 (pa la : Nat) (o1 o2 : Nat → UInt8) (dat : List UInt8) (ts : Int) (p4 p6 : Addr) (g c : Nat) (w : World) (hz : Zs w p4 p6) (hpa : pa < 4294967296) (hla : la < 4294967296)
    (hV : View w (some ⟨g, 0, none⟩) (bc (b4 pa ++ b4 la ++ [0, 0] ++ be16 1 ++ b4 (lo4 o1 % 4294967296) ++ b4 (lo4 o2 % 4294967296) ++ dat))) (hc : (b4 pa ++ b4 la ++ [0, 0] ++ be16 1 ++ b4 (lo4 o1 % 4294967296) ++ b4 (lo4 o2 % 4294967296) ++ dat).length ≤ c) (hm : c ≤ maxLen) :
    Back pa la 4 o1 o2 true true dat ts p4 p6 g c (b4 pa ++ b4 la ++ [0, 0] ++ be16 1 ++ b4 (lo4 o1 % 4294967296) ++ b4 (lo4 o2 % 4294967296) ++ dat).length w := by
  intro W rb hb hB
  obtain ⟨body, hbody⟩ : ∃ body, body = b4 pa ++ b4 la ++ [0, 0] ++ be16 1 ++ b4 (lo4 o1 % 4294967296) ++ b4 (lo4 o2 % 4294967296) ++ dat := ⟨_, rfl⟩
  obtain ⟨bb, hbb⟩ : ∃ bb : Nat → UInt8, bb = fun i => (b4 pa ++ b4 la ++ [0, 0] ++ be16 1 ++ b4 (lo4 o1 % 4294967296) ++ b4 (lo4 o2 % 4294967296) ++ dat).getD i 0 := ⟨_, rfl⟩
  have hlen : (b4 pa ++ b4 la ++ [0, 0] ++ be16 1 ++ b4 (lo4 o1 % 4294967296) ++ b4 (lo4 o2 % 4294967296) ++ dat).length = 20 + dat.length := by
    rw [List.length_append]; rfl
  have hV' := hV.all hb
  have hcl := view_bytes hV'
  have h1 : (bb 10).toNat = 0 := by subst hbb; rfl
  have h2 : (bb 11).toNat = 1 := by subst hbb; rfl
  have hcl2 : ∀ i, i < 20 + dat.length → W.cell? ⟨g, 0 + i, none⟩ = some (.int .u8 (bb i).toNat) := by
    intro i hi
    have := hcl i (by rw [hlen]; exact hi)
    rw [hbb]; exact this
  rw [hlen] at hc hB
  have hzW := hz.later hb
  have hP := fun (w' : World) (hb' : Below W.heap.size W w') =>
    peers_t4 rb ts 7 g 0 (20 + dat.length) c bb ⟨#[109, 101, 115, 115, 97, 103, 101]⟩ p4 p6 w' (hzW.later hb') ((hb'.block _ hB.lt).trans hB) (by omega) hc hm (fun i hi => cell_later hb' (hcl2 i hi)) h1 h2
  have hM := message_7 rb ts _ _ _ _ _ _ _ _ _ g _ _ (fun x => x = 0 + 12 + 8 ∨ 20 + dat.length = 20) W hB hP
  have e1 : be4 bb = pa := by
    subst hbb
    exact be4_b4 pa hpa _ (fun i hi => by match i, hi with | 0, _ => rfl | 1, _ => rfl | 2, _ => rfl | 3, _ => rfl)
  have e2 : be4 (fun i => bb (4 + i)) = la := by
    subst hbb
    exact be4_b4 la hla _ (fun i hi => by match i, hi with | 0, _ => rfl | 1, _ => rfl | 2, _ => rfl | 3, _ => rfl)
  have e3 : lo4 (fun i => bb (12 + i)) = lo4 o1 := by subst hbb; exact lo4_b4 o1 _ (fun i hi => by match i, hi with | 0, _ => rfl | 1, _ => rfl | 2, _ => rfl | 3, _ => rfl)
  have e4 : lo4 (fun i => bb (16 + i)) = lo4 o2 := by subst hbb; exact lo4_b4 o2 _ (fun i hi => by match i, hi with | 0, _ => rfl | 1, _ => rfl | 2, _ => rfl | 3, _ => rfl)
  rw [e1, e2, e3, e4] at hM
  refine hM.mono ?_
  rintro e w2 ⟨x, rfl, hq, hb2⟩
  have hd : 20 + dat.length - 12 - 8 = dat.length := by omega
  rw [hd]
  refine ⟨x, _, rfl, ?_, hb2⟩
  refine (view_tail hV' ?_).all hb2
  rcases hq with hq | hq
  · exact .inl hq
  · exact .inr (List.length_eq_zero_iff.mp (by omega))

theorem back_ff6 (pa la : Nat) (o1 o2 : Nat → UInt8) (dat : List UInt8) (ts : Int) (p4 p6 : Addr) (g c : Nat) (w : World) (hz : Zs w p4 p6) (hpa : pa < 65536) (hla : la < 65536)
    (hV : View w (some ⟨g, 0, none⟩) (bc (be16 (pa : Int) ++ be16 (la : Int) ++ [0, 0] ++ be16 2 ++ (b8 (be8 o1) ++ b8 (be8 fun i => o1 (8 + i))) ++ (b8 (be8 o2) ++ b8 (be8 fun i => o2 (8 + i))) ++ dat))) (hc : (be16 (pa : Int) ++ be16 (la : Int) ++ [0, 0] ++ be16 2 ++ (b8 (be8 o1) ++ b8 (be8 fun i => o1 (8 + i))) ++ (b8 (be8 o2) ++ b8 (be8 fun i => o2 (8 + i))) ++ dat).length ≤ c) (hm : c ≤ maxLen) :
    Back pa la 6 o1 o2 false false dat ts p4 p6 g c (be16 (pa : Int) ++ be16 (la : Int) ++ [0, 0] ++ be16 2 ++ (b8 (be8 o1) ++ b8 (be8 fun i => o1 (8 + i))) ++ (b8 (be8 o2) ++ b8 (be8 fun i => o2 (8 + i))) ++ dat).length w := by
  intro W rb hb hB
  obtain ⟨body, hbody⟩ : ∃ body, body = be16 (pa : Int) ++ be16 (la : Int) ++ [0, 0] ++ be16 2 ++ (b8 (be8 o1) ++ b8 (be8 fun i => o1 (8 + i))) ++ (b8 (be8 o2) ++ b8 (be8 fun i => o2 (8 + i))) ++ dat := ⟨_, rfl⟩
  obtain ⟨bb, hbb⟩ : ∃ bb : Nat → UInt8, bb = fun i => (be16 (pa : Int) ++ be16 (la : Int) ++ [0, 0] ++ be16 2 ++ (b8 (be8 o1) ++ b8 (be8 fun i => o1 (8 + i))) ++ (b8 (be8 o2) ++ b8 (be8 fun i => o2 (8 + i))) ++ dat).getD i 0 := ⟨_, rfl⟩
  have hlen : (be16 (pa : Int) ++ be16 (la : Int) ++ [0, 0] ++ be16 2 ++ (b8 (be8 o1) ++ b8 (be8 fun i => o1 (8 + i))) ++ (b8 (be8 o2) ++ b8 (be8 fun i => o2 (8 + i))) ++ dat).length = 40 + dat.length := by
    rw [List.length_append]; rfl
  have hV' := hV.all hb
  have hcl := view_bytes hV'
  have h1 : (bb 6).toNat = 0 := by subst hbb; rfl
  have h2 : (bb 7).toNat = 2 := by subst hbb; rfl
  have hcl2 : ∀ i, i < 40 + dat.length → W.cell? ⟨g, 0 + i, none⟩ = some (.int .u8 (bb i).toNat) := by
    intro i hi
    have := hcl i (by rw [hlen]; exact hi)
    rw [hbb]; exact this
  rw [hlen] at hc hB
  have hzW := hz.later hb
  have hP := fun (w' : World) (hb' : Below W.heap.size W w') =>
    peers_f6 rb ts 1 g 0 (40 + dat.length) c bb ⟨#[109, 101, 115, 115, 97, 103, 101]⟩ p4 p6 w' (hzW.later hb') ((hb'.block _ hB.lt).trans hB) (by omega) hc hm (fun i hi => cell_later hb' (hcl2 i hi)) h1 h2
  have hM := message_1 rb ts _ _ _ _ _ _ _ _ _ g _ _ (fun x => x = 0 + 8 + 32 ∨ 40 + dat.length = 40) W hB hP
  have e1 : be2 bb = pa := by
    subst hbb
    exact be2_be16 pa hpa _ (fun i hi => by match i, hi with | 0, _ => rfl | 1, _ => rfl)
  have e2 : be2 (fun i => bb (2 + i)) = la := by
    subst hbb
    exact be2_be16 la hla _ (fun i hi => by match i, hi with | 0, _ => rfl | 1, _ => rfl)
  have e3 : be8 (fun i => bb (8 + i)) = be8 o1 := by subst hbb; exact be8_b8 _ (be8_lt _) _ (fun i hi => by match i, hi with | 0, _ => rfl | 1, _ => rfl | 2, _ => rfl | 3, _ => rfl | 4, _ => rfl | 5, _ => rfl | 6, _ => rfl | 7, _ => rfl)
  have e4 : be8 (fun i => bb (8 + (8 + i))) = be8 (fun i => o1 (8 + i)) := by subst hbb; exact be8_b8 _ (be8_lt _) _ (fun i hi => by match i, hi with | 0, _ => rfl | 1, _ => rfl | 2, _ => rfl | 3, _ => rfl | 4, _ => rfl | 5, _ => rfl | 6, _ => rfl | 7, _ => rfl)
  have e5 : be8 (fun i => bb (24 + i)) = be8 o2 := by subst hbb; exact be8_b8 _ (be8_lt _) _ (fun i hi => by match i, hi with | 0, _ => rfl | 1, _ => rfl | 2, _ => rfl | 3, _ => rfl | 4, _ => rfl | 5, _ => rfl | 6, _ => rfl | 7, _ => rfl)
  have e6 : be8 (fun i => bb (24 + (8 + i))) = be8 (fun i => o2 (8 + i)) := by subst hbb; exact be8_b8 _ (be8_lt _) _ (fun i hi => by match i, hi with | 0, _ => rfl | 1, _ => rfl | 2, _ => rfl | 3, _ => rfl | 4, _ => rfl | 5, _ => rfl | 6, _ => rfl | 7, _ => rfl)
  rw [e1, e2, e3, e4, e5, e6] at hM
  refine hM.mono ?_
  rintro e w2 ⟨x, rfl, hq, hb2⟩
  have hd : 40 + dat.length - 8 - 32 = dat.length := by omega
  rw [hd]
  refine ⟨x, _, rfl, ?_, hb2⟩
  refine (view_tail hV' ?_).all hb2
  rcases hq with hq | hq
  · exact .inl hq
  · exact .inr (List.length_eq_zero_iff.mp (by omega))

theorem back_tf6 (pa la : Nat) (o1 o2 : Nat → UInt8) (dat : List UInt8) (ts : Int) (p4 p6 : Addr) (g c : Nat) (w : World) (hz : Zs w p4 p6) (hpa : pa < 65536) (hla : la < 65536)
    (hV : View w (some ⟨g, 0, none⟩) (bc (be16 (pa : Int) ++ be16 (la : Int) ++ [0, 0] ++ be16 2 ++ (b8 (be8 o1) ++ b8 (be8 fun i => o1 (8 + i))) ++ (b8 (be8 o2) ++ b8 (be8 fun i => o2 (8 + i))) ++ dat))) (hc : (be16 (pa : Int) ++ be16 (la : Int) ++ [0, 0] ++ be16 2 ++ (b8 (be8 o1) ++ b8 (be8 fun i => o1 (8 + i))) ++ (b8 (be8 o2) ++ b8 (be8 fun i => o2 (8 + i))) ++ dat).length ≤ c) (hm : c ≤ maxLen) :
    Back pa la 6 o1 o2 true false dat ts p4 p6 g c (be16 (pa : Int) ++ be16 (la : Int) ++ [0, 0] ++ be16 2 ++ (b8 (be8 o1) ++ b8 (be8 fun i => o1 (8 + i))) ++ (b8 (be8 o2) ++ b8 (be8 fun i => o2 (8 + i))) ++ dat).length w := by
  intro W rb hb hB
  obtain ⟨body, hbody⟩ : ∃ body, body = be16 (pa : Int) ++ be16 (la : Int) ++ [0, 0] ++ be16 2 ++ (b8 (be8 o1) ++ b8 (be8 fun i => o1 (8 + i))) ++ (b8 (be8 o2) ++ b8 (be8 fun i => o2 (8 + i))) ++ dat := ⟨_, rfl⟩
  obtain ⟨bb, hbb⟩ : ∃ bb : Nat → UInt8, bb = fun i => (be16 (pa : Int) ++ be16 (la : Int) ++ [0, 0] ++ be16 2 ++ (b8 (be8 o1) ++ b8 (be8 fun i => o1 (8 + i))) ++ (b8 (be8 o2) ++ b8 (be8 fun i => o2 (8 + i))) ++ dat).getD i 0 := ⟨_, rfl⟩
  have hlen : (be16 (pa : Int) ++ be16 (la : Int) ++ [0, 0] ++ be16 2 ++ (b8 (be8 o1) ++ b8 (be8 fun i => o1 (8 + i))) ++ (b8 (be8 o2) ++ b8 (be8 fun i => o2 (8 + i))) ++ dat).length = 40 + dat.length := by
    rw [List.length_append]; rfl
  have hV' := hV.all hb
  have hcl := view_bytes hV'
  have h1 : (bb 6).toNat = 0 := by subst hbb; rfl
  have h2 : (bb 7).toNat = 2 := by subst hbb; rfl
  have hcl2 : ∀ i, i < 40 + dat.length → W.cell? ⟨g, 0 + i, none⟩ = some (.int .u8 (bb i).toNat) := by
    intro i hi
    have := hcl i (by rw [hlen]; exact hi)
    rw [hbb]; exact this
  rw [hlen] at hc hB
  have hzW := hz.later hb
  have hP := fun (w' : World) (hb' : Below W.heap.size W w') =>
    peers_f6 rb ts 6 g 0 (40 + dat.length) c bb ⟨#[109, 101, 115, 115, 97, 103, 101]⟩ p4 p6 w' (hzW.later hb') ((hb'.block _ hB.lt).trans hB) (by omega) hc hm (fun i hi => cell_later hb' (hcl2 i hi)) h1 h2
  have hM := message_6 rb ts _ _ _ _ _ _ _ _ _ g _ _ (fun x => x = 0 + 8 + 32 ∨ 40 + dat.length = 40) W hB hP
  have e1 : be2 bb = pa := by
    subst hbb
    exact be2_be16 pa hpa _ (fun i hi => by match i, hi with | 0, _ => rfl | 1, _ => rfl)
  have e2 : be2 (fun i => bb (2 + i)) = la := by
    subst hbb
    exact be2_be16 la hla _ (fun i hi => by match i, hi with | 0, _ => rfl | 1, _ => rfl)
  have e3 : be8 (fun i => bb (8 + i)) = be8 o1 := by subst hbb; exact be8_b8 _ (be8_lt _) _ (fun i hi => by match i, hi with | 0, _ => rfl | 1, _ => rfl | 2, _ => rfl | 3, _ => rfl | 4, _ => rfl | 5, _ => rfl | 6, _ => rfl | 7, _ => rfl)
  have e4 : be8 (fun i => bb (8 + (8 + i))) = be8 (fun i => o1 (8 + i)) := by subst hbb; exact be8_b8 _ (be8_lt _) _ (fun i hi => by match i, hi with | 0, _ => rfl | 1, _ => rfl | 2, _ => rfl | 3, _ => rfl | 4, _ => rfl | 5, _ => rfl | 6, _ => rfl | 7, _ => rfl)
  have e5 : be8 (fun i => bb (24 + i)) = be8 o2 := by subst hbb; exact be8_b8 _ (be8_lt _) _ (fun i hi => by match i, hi with | 0, _ => rfl | 1, _ => rfl | 2, _ => rfl | 3, _ => rfl | 4, _ => rfl | 5, _ => rfl | 6, _ => rfl | 7, _ => rfl)
  have e6 : be8 (fun i => bb (24 + (8 + i))) = be8 (fun i => o2 (8 + i)) := by subst hbb; exact be8_b8 _ (be8_lt _) _ (fun i hi => by match i, hi with | 0, _ => rfl | 1, _ => rfl | 2, _ => rfl | 3, _ => rfl | 4, _ => rfl | 5, _ => rfl | 6, _ => rfl | 7, _ => rfl)
  rw [e1, e2, e3, e4, e5, e6] at hM
  refine hM.mono ?_
  rintro e w2 ⟨x, rfl, hq, hb2⟩
  have hd : 40 + dat.length - 8 - 32 = dat.length := by omega
  rw [hd]
  refine ⟨x, _, rfl, ?_, hb2⟩
  refine (view_tail hV' ?_).all hb2
  rcases hq with hq | hq
  · exact .inl hq
  · exact .inr (List.length_eq_zero_iff.mp (by omega))

theorem back_ft6 (pa la : Nat) (o1 o2 : Nat → UInt8) (dat : List UInt8) (ts : Int) (p4 p6 : Addr) (g c : Nat) (w : World) (hz : Zs w p4 p6) (hpa : pa < 4294967296) (hla : la < 4294967296)
    (hV : View w (some ⟨g, 0, none⟩) (bc (b4 pa ++ b4 la ++ [0, 0] ++ be16 2 ++ (b8 (be8 o1) ++ b8 (be8 fun i => o1 (8 + i))) ++ (b8 (be8 o2) ++ b8 (be8 fun i => o2 (8 + i))) ++ dat))) (hc : (b4 pa ++ b4 la ++ [0, 0] ++ be16 2 ++ (b8 (be8 o1) ++ b8 (be8 fun i => o1 (8 + i))) ++ (b8 (be8 o2) ++ b8 (be8 fun i => o2 (8 + i))) ++ dat).length ≤ c) (hm : c ≤ maxLen) :
    Back pa la 6 o1 o2 false true dat ts p4 p6 g c (b4 pa ++ b4 la ++ [0, 0] ++ be16 2 ++ (b8 (be8 o1) ++ b8 (be8 fun i => o1 (8 + i))) ++ (b8 (be8 o2) ++ b8 (be8 fun i => o2 (8 + i))) ++ dat).length w := by
  intro W rb hb hB
  obtain ⟨body, hbody⟩ : ∃ body, body = b4 pa ++ b4 la ++ [0, 0] ++ be16 2 ++ (b8 (be8 o1) ++ b8 (be8 fun i => o1 (8 + i))) ++ (b8 (be8 o2) ++ b8 (be8 fun i => o2 (8 + i))) ++ dat := ⟨_, rfl⟩
  obtain ⟨bb, hbb⟩ : ∃ bb : Nat → UInt8, bb = fun i => (b4 pa ++ b4 la ++ [0, 0] ++ be16 2 ++ (b8 (be8 o1) ++ b8 (be8 fun i => o1 (8 + i))) ++ (b8 (be8 o2) ++ b8 (be8 fun i => o2 (8 + i))) ++ dat).getD i 0 := ⟨_, rfl⟩
  have hlen : (b4 pa ++ b4 la ++ [0, 0] ++ be16 2 ++ (b8 (be8 o1) ++ b8 (be8 fun i => o1 (8 + i))) ++ (b8 (be8 o2) ++ b8 (be8 fun i => o2 (8 + i))) ++ dat).length = 44 + dat.length := by
    rw [List.length_append]; rfl
  have hV' := hV.all hb
  have hcl := view_bytes hV'
  have h1 : (bb 10).toNat = 0 := by subst hbb; rfl
  have h2 : (bb 11).toNat = 2 := by subst hbb; rfl
  have hcl2 : ∀ i, i < 44 + dat.length → W.cell? ⟨g, 0 + i, none⟩ = some (.int .u8 (bb i).toNat) := by
    intro i hi
    have := hcl i (by rw [hlen]; exact hi)
    rw [hbb]; exact this
  rw [hlen] at hc hB
  have hzW := hz.later hb
  have hP := fun (w' : World) (hb' : Below W.heap.size W w') =>
    peers_t6 rb ts 4 g 0 (44 + dat.length) c bb ⟨#[109, 101, 115, 115, 97, 103, 101]⟩ p4 p6 w' (hzW.later hb') ((hb'.block _ hB.lt).trans hB) (by omega) hc hm (fun i hi => cell_later hb' (hcl2 i hi)) h1 h2
  have hM := message_4 rb ts _ _ _ _ _ _ _ _ _ g _ _ (fun x => x = 0 + 12 + 32 ∨ 44 + dat.length = 44) W hB hP
  have e1 : be4 bb = pa := by
    subst hbb
    exact be4_b4 pa hpa _ (fun i hi => by match i, hi with | 0, _ => rfl | 1, _ => rfl | 2, _ => rfl | 3, _ => rfl)
  have e2 : be4 (fun i => bb (4 + i)) = la := by
    subst hbb
    exact be4_b4 la hla _ (fun i hi => by match i, hi with | 0, _ => rfl | 1, _ => rfl | 2, _ => rfl | 3, _ => rfl)
  have e3 : be8 (fun i => bb (12 + i)) = be8 o1 := by subst hbb; exact be8_b8 _ (be8_lt _) _ (fun i hi => by match i, hi with | 0, _ => rfl | 1, _ => rfl | 2, _ => rfl | 3, _ => rfl | 4, _ => rfl | 5, _ => rfl | 6, _ => rfl | 7, _ => rfl)
  have e4 : be8 (fun i => bb (12 + (8 + i))) = be8 (fun i => o1 (8 + i)) := by subst hbb; exact be8_b8 _ (be8_lt _) _ (fun i hi => by match i, hi with | 0, _ => rfl | 1, _ => rfl | 2, _ => rfl | 3, _ => rfl | 4, _ => rfl | 5, _ => rfl | 6, _ => rfl | 7, _ => rfl)
  have e5 : be8 (fun i => bb (28 + i)) = be8 o2 := by subst hbb; exact be8_b8 _ (be8_lt _) _ (fun i hi => by match i, hi with | 0, _ => rfl | 1, _ => rfl | 2, _ => rfl | 3, _ => rfl | 4, _ => rfl | 5, _ => rfl | 6, _ => rfl | 7, _ => rfl)
  have e6 : be8 (fun i => bb (28 + (8 + i))) = be8 (fun i => o2 (8 + i)) := by subst hbb; exact be8_b8 _ (be8_lt _) _ (fun i hi => by match i, hi with | 0, _ => rfl | 1, _ => rfl | 2, _ => rfl | 3, _ => rfl | 4, _ => rfl | 5, _ => rfl | 6, _ => rfl | 7, _ => rfl)
  rw [e1, e2, e3, e4, e5, e6] at hM
  refine hM.mono ?_
  rintro e w2 ⟨x, rfl, hq, hb2⟩
  have hd : 44 + dat.length - 12 - 32 = dat.length := by omega
  rw [hd]
  refine ⟨x, _, rfl, ?_, hb2⟩
  refine (view_tail hV' ?_).all hb2
  rcases hq with hq | hq
  · exact .inl hq
  · exact .inr (List.length_eq_zero_iff.mp (by omega))

theorem back_tt6 (pa la : Nat) (o1 o2 : Nat → UInt8) (dat : List UInt8) (ts : Int) (p4 p6 : Addr) (g c : Nat) (w : World) (hz : Zs w p4 p6) (hpa : pa < 4294967296) (hla : la < 4294967296)
    (hV : View w (some ⟨g, 0, none⟩) (bc (b4 pa ++ b4 la ++ [0, 0] ++ be16 2 ++ (b8 (be8 o1) ++ b8 (be8 fun i => o1 (8 + i))) ++ (b8 (be8 o2) ++ b8 (be8 fun i => o2 (8 + i))) ++ dat))) (hc : (b4 pa ++ b4 la ++ [0, 0] ++ be16 2 ++ (b8 (be8 o1) ++ b8 (be8 fun i => o1 (8 + i))) ++ (b8 (be8 o2) ++ b8 (be8 fun i => o2 (8 + i))) ++ dat).length ≤ c) (hm : c ≤ maxLen) :
    Back pa la 6 o1 o2 true true dat ts p4 p6 g c (b4 pa ++ b4 la ++ [0, 0] ++ be16 2 ++ (b8 (be8 o1) ++ b8 (be8 fun i => o1 (8 + i))) ++ (b8 (be8 o2) ++ b8 (be8 fun i => o2 (8 + i))) ++ dat).length w := by
  intro W rb hb hB
  obtain ⟨body, hbody⟩ : ∃ body, body = b4 pa ++ b4 la ++ [0, 0] ++ be16 2 ++ (b8 (be8 o1) ++ b8 (be8 fun i => o1 (8 + i))) ++ (b8 (be8 o2) ++ b8 (be8 fun i => o2 (8 + i))) ++ dat := ⟨_, rfl⟩
  obtain ⟨bb, hbb⟩ : ∃ bb : Nat → UInt8, bb = fun i => (b4 pa ++ b4 la ++ [0, 0] ++ be16 2 ++ (b8 (be8 o1) ++ b8 (be8 fun i => o1 (8 + i))) ++ (b8 (be8 o2) ++ b8 (be8 fun i => o2 (8 + i))) ++ dat).getD i 0 := ⟨_, rfl⟩
  have hlen : (b4 pa ++ b4 la ++ [0, 0] ++ be16 2 ++ (b8 (be8 o1) ++ b8 (be8 fun i => o1 (8 + i))) ++ (b8 (be8 o2) ++ b8 (be8 fun i => o2 (8 + i))) ++ dat).length = 44 + dat.length := by
    rw [List.length_append]; rfl
  have hV' := hV.all hb
  have hcl := view_bytes hV'
  have h1 : (bb 10).toNat = 0 := by subst hbb; rfl
  have h2 : (bb 11).toNat = 2 := by subst hbb; rfl
  have hcl2 : ∀ i, i < 44 + dat.length → W.cell? ⟨g, 0 + i, none⟩ = some (.int .u8 (bb i).toNat) := by
    intro i hi
    have := hcl i (by rw [hlen]; exact hi)
    rw [hbb]; exact this
  rw [hlen] at hc hB
  have hzW := hz.later hb
  have hP := fun (w' : World) (hb' : Below W.heap.size W w') =>
    peers_t6 rb ts 7 g 0 (44 + dat.length) c bb ⟨#[109, 101, 115, 115, 97, 103, 101]⟩ p4 p6 w' (hzW.later hb') ((hb'.block _ hB.lt).trans hB) (by omega) hc hm (fun i hi => cell_later hb' (hcl2 i hi)) h1 h2
  have hM := message_7 rb ts _ _ _ _ _ _ _ _ _ g _ _ (fun x => x = 0 + 12 + 32 ∨ 44 + dat.length = 44) W hB hP
  have e1 : be4 bb = pa := by
    subst hbb
    exact be4_b4 pa hpa _ (fun i hi => by match i, hi with | 0, _ => rfl | 1, _ => rfl | 2, _ => rfl | 3, _ => rfl)
  have e2 : be4 (fun i => bb (4 + i)) = la := by
    subst hbb
    exact be4_b4 la hla _ (fun i hi => by match i, hi with | 0, _ => rfl | 1, _ => rfl | 2, _ => rfl | 3, _ => rfl)
  have e3 : be8 (fun i => bb (12 + i)) = be8 o1 := by subst hbb; exact be8_b8 _ (be8_lt _) _ (fun i hi => by match i, hi with | 0, _ => rfl | 1, _ => rfl | 2, _ => rfl | 3, _ => rfl | 4, _ => rfl | 5, _ => rfl | 6, _ => rfl | 7, _ => rfl)
  have e4 : be8 (fun i => bb (12 + (8 + i))) = be8 (fun i => o1 (8 + i)) := by subst hbb; exact be8_b8 _ (be8_lt _) _ (fun i hi => by match i, hi with | 0, _ => rfl | 1, _ => rfl | 2, _ => rfl | 3, _ => rfl | 4, _ => rfl | 5, _ => rfl | 6, _ => rfl | 7, _ => rfl)
  have e5 : be8 (fun i => bb (28 + i)) = be8 o2 := by subst hbb; exact be8_b8 _ (be8_lt _) _ (fun i hi => by match i, hi with | 0, _ => rfl | 1, _ => rfl | 2, _ => rfl | 3, _ => rfl | 4, _ => rfl | 5, _ => rfl | 6, _ => rfl | 7, _ => rfl)
  have e6 : be8 (fun i => bb (28 + (8 + i))) = be8 (fun i => o2 (8 + i)) := by subst hbb; exact be8_b8 _ (be8_lt _) _ (fun i hi => by match i, hi with | 0, _ => rfl | 1, _ => rfl | 2, _ => rfl | 3, _ => rfl | 4, _ => rfl | 5, _ => rfl | 6, _ => rfl | 7, _ => rfl)
  rw [e1, e2, e3, e4, e5, e6] at hM
  refine hM.mono ?_
  rintro e w2 ⟨x, rfl, hq, hb2⟩
  have hd : 44 + dat.length - 12 - 32 = dat.length := by omega
  rw [hd]
  refine ⟨x, _, rfl, ?_, hb2⟩
  refine (view_tail hV' ?_).all hb2
  rcases hq with hq | hq
  · exact .inl hq
  · exact .inr (List.length_eq_zero_iff.mp (by omega))

theorem record_ok (mb pa la n : Nat) (o1 o2 : Nat → UInt8) (lc a4 : Bool) (da : Option Addr) (dat : List UInt8) (dc : Nat) (ts : Int) (p4 p6 : Addr) (w : World) (hz : Zs w p4 p6)
    (hM : Blk w mb 36 (msgN pa la n n o1 o2 lc a4 p4 p6 (.slice da dat.length dc))) (hpa : pa < 4294967296) (hla : la < 4294967296)
    (hD : View w da (bc dat)) (hdn : da = none → dat = []) (hdl : dat.length ≤ 1073741824)
    (hn : n = 4 ∨ n = 6) (ha : a4 = true ∨ pa < 65536 ∧ la < 65536) :
    Calls Tryf.prog 6 #[.pointer (some ⟨mb, 0, none⟩), .int .u32 ts] w fun e w' => ∃ g c len, e = .returned (.tuple #[.agg (recOf ts (subOf lc a4) (.slice (some ⟨g, 0, none⟩) len c)), .nilIface]) ∧
      Back pa la n o1 o2 lc a4 dat ts p4 p6 g c len w' ∧ Below w.heap.size w w' := by
  rcases hn with rfl | rfl
  · cases a4 <;> cases lc
    · refine (record_ff4 mb pa la 0 (lo4 o1) 0 (lo4 o2) da dat dc ts p4 p6 w hz hM (ha.resolve_left (by decide)).1 (ha.resolve_left (by decide)).2 hD hdn hdl).mono ?_
      rintro e w' ⟨g, c, rfl, hV, hc, hm, hb⟩
      exact ⟨g, c, _, rfl, back_ff4 pa la o1 o2 dat ts p4 p6 g c w' (hz.later hb) (ha.resolve_left (by decide)).1 (ha.resolve_left (by decide)).2 hV hc hm, hb⟩
    · refine (record_tf4 mb pa la 0 (lo4 o1) 0 (lo4 o2) da dat dc ts p4 p6 w hz hM (ha.resolve_left (by decide)).1 (ha.resolve_left (by decide)).2 hD hdn hdl).mono ?_
      rintro e w' ⟨g, c, rfl, hV, hc, hm, hb⟩
      exact ⟨g, c, _, rfl, back_tf4 pa la o1 o2 dat ts p4 p6 g c w' (hz.later hb) (ha.resolve_left (by decide)).1 (ha.resolve_left (by decide)).2 hV hc hm, hb⟩
    · refine (record_ft4 mb pa la 0 (lo4 o1) 0 (lo4 o2) da dat dc ts p4 p6 w hz hM hpa hla hD hdn hdl).mono ?_
      rintro e w' ⟨g, c, rfl, hV, hc, hm, hb⟩
      exact ⟨g, c, _, rfl, back_ft4 pa la o1 o2 dat ts p4 p6 g c w' (hz.later hb) hpa hla hV hc hm, hb⟩
    · refine (record_tt4 mb pa la 0 (lo4 o1) 0 (lo4 o2) da dat dc ts p4 p6 w hz hM hpa hla hD hdn hdl).mono ?_
      rintro e w' ⟨g, c, rfl, hV, hc, hm, hb⟩
      exact ⟨g, c, _, rfl, back_tt4 pa la o1 o2 dat ts p4 p6 g c w' (hz.later hb) hpa hla hV hc hm, hb⟩
  · cases a4 <;> cases lc
    · refine (record_ff6 mb pa la (be8 o1) (be8 fun i => o1 (8 + i)) (be8 o2) (be8 fun i => o2 (8 + i)) da dat dc ts p4 p6 w hz hM (ha.resolve_left (by decide)).1 (ha.resolve_left (by decide)).2 hD hdn hdl (be8_lt _) (be8_lt _) (be8_lt _) (be8_lt _)).mono ?_
      rintro e w' ⟨g, c, rfl, hV, hc, hm, hb⟩
      exact ⟨g, c, _, rfl, back_ff6 pa la o1 o2 dat ts p4 p6 g c w' (hz.later hb) (ha.resolve_left (by decide)).1 (ha.resolve_left (by decide)).2 hV hc hm, hb⟩
    · refine (record_tf6 mb pa la (be8 o1) (be8 fun i => o1 (8 + i)) (be8 o2) (be8 fun i => o2 (8 + i)) da dat dc ts p4 p6 w hz hM (ha.resolve_left (by decide)).1 (ha.resolve_left (by decide)).2 hD hdn hdl (be8_lt _) (be8_lt _) (be8_lt _) (be8_lt _)).mono ?_
      rintro e w' ⟨g, c, rfl, hV, hc, hm, hb⟩
      exact ⟨g, c, _, rfl, back_tf6 pa la o1 o2 dat ts p4 p6 g c w' (hz.later hb) (ha.resolve_left (by decide)).1 (ha.resolve_left (by decide)).2 hV hc hm, hb⟩
    · refine (record_ft6 mb pa la (be8 o1) (be8 fun i => o1 (8 + i)) (be8 o2) (be8 fun i => o2 (8 + i)) da dat dc ts p4 p6 w hz hM hpa hla hD hdn hdl (be8_lt _) (be8_lt _) (be8_lt _) (be8_lt _)).mono ?_
      rintro e w' ⟨g, c, rfl, hV, hc, hm, hb⟩
      exact ⟨g, c, _, rfl, back_ft6 pa la o1 o2 dat ts p4 p6 g c w' (hz.later hb) hpa hla hV hc hm, hb⟩
    · refine (record_tt6 mb pa la (be8 o1) (be8 fun i => o1 (8 + i)) (be8 o2) (be8 fun i => o2 (8 + i)) da dat dc ts p4 p6 w hz hM hpa hla hD hdn hdl (be8_lt _) (be8_lt _) (be8_lt _) (be8_lt _)).mono ?_
      rintro e w' ⟨g, c, rfl, hV, hc, hm, hb⟩
      exact ⟨g, c, _, rfl, back_tt6 pa la o1 o2 dat ts p4 p6 g c w' (hz.later hb) hpa hla hV hc hm, hb⟩

end Go.Proofs.Qxb6003778aFmt
