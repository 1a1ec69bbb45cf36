/-
  DERIVED. GIVEN WITH THE SEED: THE PROGRAM's TIES (one call each: nine closed facts by the kernel) AND EACH ROW's TIE, after the 31st guide's Derived/Test/Toyas{Tie, Card}.lean. No idea stands in it: it is a product of the set-up. Laid BY PROGRAM, IN A SANDBOX (cutbox-door.mjs). By AI agents, Wed Nov 11 2026. No macro, syntax, notation, axiom, sorry.
-/
import Derived.Test.Qxb6003713aFmtRows
import Derived.LaidByTextLater
import Derived.SevenTiedAt
import Derived.LaidSub
import Derived.LaidOnce
namespace Go.Proofs.Qxb6003713aFmt
open Go
set_option maxRecDepth 100000
theorem seatTie1 : Tryf.prog.laidByTextLater [("net/netip.z4", Rows.laid_net_netip_z4), ("net/netip.z6noz", Rows.laid_net_netip_z6noz), ("example.com/weftwire/weftwire/wire.ErrMalformed", Rows.laid_example_com_weftwire_weftwire_wire_ErrMalformed), ("example.com/weftwire/weftwire/wire.attrFlags", Rows.laid_example_com_weftwire_weftwire_wire_attrFlags), ("net/netip.z0", Rows.laid_net_netip_z0)] [.called, .called, .sentinel, .data, .zero] true :=
  Program.laidByTextLater_by_one 86 8 257 (by kernel_rfl) (by kernel_rfl) (by kernel_rfl) (by kernel_rfl) (by kernel_rfl) (by kernel_rfl) (fun _ _ => by kernel_rfl)
theorem noOwnUnsafe : Tryf.pinned.checked.prog.headLifts.contains "ownunsafe" = false := by kernel_rfl
theorem tie : Tryf.prog.laidByTextLater [("example.com/weftwire/weftwire/wire.ErrMalformed", Rows.laid_example_com_weftwire_weftwire_wire_ErrMalformed)] [.sentinel] true :=
  Program.laidByTextLater.sub seatTie1 ["example.com/weftwire/weftwire/wire.ErrMalformed"] (by kernel_rfl) (by kernel_rfl)
theorem propNotificationKeepaliveRoundTrip_row_tie : Rows.propNotificationKeepaliveRoundTripRow.laidByTextAt .later Tryf.pinned [.sentinel] true :=
  OpenClaim.laidByTextAt_later rfl rfl tie noOwnUnsafe
theorem tie2 : Tryf.prog.laidByTextLater [("example.com/weftwire/weftwire/wire.attrFlags", Rows.laid_example_com_weftwire_weftwire_wire_attrFlags)] [.data] true :=
  Program.laidByTextLater.sub seatTie1 ["example.com/weftwire/weftwire/wire.attrFlags"] (by kernel_rfl) (by kernel_rfl)
theorem propPackerGreedyPartitionWithinRoomFree_row_tie : Rows.propPackerGreedyPartitionWithinRoomFreeRow.laidByTextAt .later Tryf.pinned [.data] true :=
  OpenClaim.laidByTextAt_later rfl rfl tie2 noOwnUnsafe
theorem tie3 : Tryf.prog.laidByTextLater [("net/netip.z4", Rows.laid_net_netip_z4), ("net/netip.z6noz", Rows.laid_net_netip_z6noz), ("example.com/weftwire/weftwire/wire.attrFlags", Rows.laid_example_com_weftwire_weftwire_wire_attrFlags), ("net/netip.z0", Rows.laid_net_netip_z0)] [.called, .called, .data, .zero] true :=
  Program.laidByTextLater.sub seatTie1 ["net/netip.z4", "net/netip.z6noz", "example.com/weftwire/weftwire/wire.attrFlags", "net/netip.z0"] (by kernel_rfl) (by kernel_rfl)
theorem propAnnouncerWritesWhatMarshalWrites_row_tie : Rows.propAnnouncerWritesWhatMarshalWritesRow.laidByTextAt .later Tryf.pinned [.called, .called, .data, .zero] true :=
  OpenClaim.laidByTextAt_later rfl rfl tie3 noOwnUnsafe
end Go.Proofs.Qxb6003713aFmt
