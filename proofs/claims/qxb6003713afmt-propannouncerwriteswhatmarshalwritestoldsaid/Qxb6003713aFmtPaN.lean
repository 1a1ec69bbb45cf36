import Derived.Test.Qxb6003713aFmtPaM
namespace Go.Proofs.Qxb6003713aFmt
open Go.RowKit
set_option linter.unusedVariables false
set_option linter.unusedSimpArgs false

/-- How a new packer comes back. -/
def Newed (c f a : Value) (w : World) (e : Ending) (w' : World) : Prop :=
  e = .returned (.pointer (some ⟨w.heap.size, 0, none⟩)) ∧ PKb w' w.heap.size 132 c f a (.slice none 0 0) ∧ Below w.heap.size w w'

theorem newPacker_any (cn : Nat) (fa : Option Addr) (nf cf : Nat) (aa : Option Addr) (na ca : Nat) (w : World) :
    Calls Tryf.prog 30 #[.int .u8 cn, .slice fa nf cf, .slice aa na ca] w (Newed (.int .u8 cn) (.slice fa nf cf) (.slice aa na ca) w) := by
  go_enter Tryf.func30, Tryf.ntmps30
  go_wp2
  go_ret
  exact ⟨rfl, heap_alloc_new w _, (Below.refl _ _).alloc (Nat.le_refl _) _⟩

theorem addW_env {wl : World} {fl fy : Int} {cn : Nat} {fa : Option Addr} {cf : Nat} {fx : List UInt8} {aa : Option Addr} {ca : Nat} {av : List UInt8} {la : Option Addr} {L : List (List UInt8)} (E : Env wl fl fy cn fa cf fx aa ca av la L)
    (pb B i : Nat) (v : Value) (ba : Option Addr) (cb : Nat) (w : World) (hb : Below wl.heap.size wl w) (hpb : wl.heap.size ≤ pb) (hB : B ≤ w.heap.size) (hi : i < L.length)
    (hP : PKb w pb 132 (.int .u8 cn) (.slice fa fx.length cf) (.slice aa av.length ca) v) (hO : OB 5 B w v (cur (fx.length + av.length) L i)) (hvp : v.ownBlock ≠ some pb)
    (hV : View wl ba (bc (el L i))) (hnb : ba = none → el L i = []) :
    Calls Tryf.prog 31 #[.pointer (some ⟨pb, 0, none⟩), .slice ba (el L i).length cb] w (Added fl cn pb B fx av L i (.int .u8 cn) (.slice fa fx.length cf) (.slice aa av.length ca) v w) := by
  have HC : Hid (Calls Tryf.prog 41 #[.pointer (some ⟨pb, 0, none⟩), .slice ba (el L i).length cb] w (Added fl cn pb B fx av L i (.int .u8 cn) (.slice fa fx.length cf) (.slice aa av.length ca) v w)) := add_env E pb B i v ba cb w hb hpb hB hi hP hO hvp hV hnb
  clear E hb hpb hB hi hP hO hvp hV hnb
  go_enter Tryf.func31, Tryf.ntmps31
  go_wp2_with (first
    | (go_at_call 41; go_must (refine HC.out.mono ?_); intro e w1 hA; obtain ⟨m, v', he, hrest⟩ := hA; subst he)
    | fail)
  refine bodyPost_ret (v := .tuple #[m, .nilIface]) (by simp [results, Tryf.results31, go_sem]) rfl ?_
  exact ⟨m, v', rfl, hrest⟩

theorem updateW_any {wl : World} {fl fy : Int} {cn : Nat} {fa : Option Addr} {cf : Nat} {fx : List UInt8} {aa : Option Addr} {ca : Nat} {av : List UInt8} {la : Option Addr} {L : List (List UInt8)} (E : Env wl fl fy cn fa cf fx aa ca av la L)
    (pb lc : Nat) (w : World) (hb : Below wl.heap.size wl w) (hpb : wl.heap.size ≤ pb) (hlen : L.length ≤ 4096)
    (hP : PKb w pb 132 (.int .u8 cn) (.slice fa fx.length cf) (.slice aa av.length ca) (.slice none 0 0)) :
    Calls Tryf.prog 32 #[.slice none 0 0, .pointer (some ⟨pb, 0, none⟩), .slice la L.length lc] w (Updated fl cn pb fx av L w) := by
  have HC : Hid (Calls Tryf.prog 44 #[.slice none 0 0, .pointer (some ⟨pb, 0, none⟩), .slice la L.length lc] w (Updated fl cn pb fx av L w)) := update_any E pb lc w hb hpb hlen hP
  clear E hb hpb hlen hP
  go_enter Tryf.func32, Tryf.ntmps32
  go_wp2_with (first
    | (go_at_call 44; go_must (refine HC.out.mono ?_); intro e w1 hA; obtain ⟨m, v', he, hrest⟩ := hA; subst he)
    | fail)
  refine bodyPost_ret (v := .tuple #[m, .nilIface]) (by simp [results, Tryf.results32, go_sem]) rfl ?_
  exact ⟨m, v', rfl, hrest⟩

end Go.Proofs.Qxb6003713aFmt
