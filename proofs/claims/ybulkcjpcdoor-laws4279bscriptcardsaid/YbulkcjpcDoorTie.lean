/-
  DERIVED. GIVEN WITH THE SEED: THE PROGRAM's TIES (one call each: nine closed facts by the kernel) AND EACH ROW's TIE, after the 31st guide's Derived/Test/Toyas{Tie, Card}.lean. No idea stands in it: it is a product of the set-up. Laid BY PROGRAM, IN A SANDBOX (cutbox-door.mjs). By AI agents, Wed Nov 11 2026. No macro, syntax, notation, axiom, sorry.
-/
import Derived.Test.YbulkcjpcDoorRows
import Derived.LaidByTextLater
import Derived.SevenTiedAt
import Derived.LaidSub
import Derived.LaidOnce
namespace Go.Proofs.YbulkcjpcDoor
open Go
set_option maxRecDepth 100000
theorem seatTie1 : Ybad.prog.laidByTextLater [("unicode/utf8.acceptRanges", Rows.laid_unicode_utf8_acceptRanges), ("example.com/groupwave/groupwave/diameter.UserName", Rows.laid_example_com_groupwave_groupwave_diameter_UserName), ("example.com/groupwave/groupwave/datamgmt.MCPTTID", Rows.laid_example_com_groupwave_groupwave_datamgmt_MCPTTID), ("example.com/groupwave/groupwave/datamgmt.DataIdentificationAVP", Rows.laid_example_com_groupwave_groupwave_datamgmt_DataIdentificationAVP), ("example.com/groupwave/groupwave/datamgmt.DataIdentificationPrefix", Rows.laid_example_com_groupwave_groupwave_datamgmt_DataIdentificationPrefix), ("example.com/groupwave/groupwave/datamgmt.DataIdentificationFlags", Rows.laid_example_com_groupwave_groupwave_datamgmt_DataIdentificationFlags), ("example.com/groupwave/groupwave/datamgmt.UserIdentifier", Rows.laid_example_com_groupwave_groupwave_datamgmt_UserIdentifier), ("example.com/groupwave/groupwave/datamgmt.ExternalIdentifier", Rows.laid_example_com_groupwave_groupwave_datamgmt_ExternalIdentifier), ("example.com/groupwave/groupwave/datamgmt.MSISDN", Rows.laid_example_com_groupwave_groupwave_datamgmt_MSISDN), ("example.com/groupwave/groupwave/mb2c.MaxRequestedBandwidthDL", Rows.laid_example_com_groupwave_groupwave_mb2c_MaxRequestedBandwidthDL), ("example.com/groupwave/groupwave/mb2c.GuaranteedBitrateDL", Rows.laid_example_com_groupwave_groupwave_mb2c_GuaranteedBitrateDL), ("example.com/groupwave/groupwave/mb2c.QoSClassIdentifier", Rows.laid_example_com_groupwave_groupwave_mb2c_QoSClassIdentifier), ("example.com/groupwave/groupwave/mb2c.AllocationRetentionPriority", Rows.laid_example_com_groupwave_groupwave_mb2c_AllocationRetentionPriority), ("example.com/groupwave/groupwave/mb2c.PriorityLevel", Rows.laid_example_com_groupwave_groupwave_mb2c_PriorityLevel), ("example.com/groupwave/groupwave/mb2c.PreemptionCapability", Rows.laid_example_com_groupwave_groupwave_mb2c_PreemptionCapability), ("example.com/groupwave/groupwave/mb2c.PreemptionVulnerability", Rows.laid_example_com_groupwave_groupwave_mb2c_PreemptionVulnerability), ("example.com/groupwave/groupwave/mb2c.qosMembers", Rows.laid_example_com_groupwave_groupwave_mb2c_qosMembers)] [.data, .wider, .called, .called, .called, .called, .called, .called, .called, .called, .called, .called, .called, .called, .called, .called, .widerDeep] true :=
  Program.laidByTextLater_by_one 487 8 49 (by kernel_rfl) (by kernel_rfl) (by kernel_rfl) (by kernel_rfl) (by kernel_rfl) (by kernel_rfl) (fun _ _ => by kernel_rfl)
theorem pin_laid_unicode_utf8_first : Ybad.pinned.checked.prog.pinnedFits "unicode/utf8.first" = true := by kernel_rfl
theorem noOwnUnsafe : Ybad.pinned.checked.prog.headLifts.contains "ownunsafe" = false := by kernel_rfl
theorem tie : Ybad.prog.laidByTextLater [("example.com/groupwave/groupwave/mb2c.MaxRequestedBandwidthDL", Rows.laid_example_com_groupwave_groupwave_mb2c_MaxRequestedBandwidthDL), ("example.com/groupwave/groupwave/mb2c.GuaranteedBitrateDL", Rows.laid_example_com_groupwave_groupwave_mb2c_GuaranteedBitrateDL), ("example.com/groupwave/groupwave/mb2c.QoSClassIdentifier", Rows.laid_example_com_groupwave_groupwave_mb2c_QoSClassIdentifier), ("example.com/groupwave/groupwave/mb2c.AllocationRetentionPriority", Rows.laid_example_com_groupwave_groupwave_mb2c_AllocationRetentionPriority), ("example.com/groupwave/groupwave/mb2c.PriorityLevel", Rows.laid_example_com_groupwave_groupwave_mb2c_PriorityLevel), ("example.com/groupwave/groupwave/mb2c.PreemptionCapability", Rows.laid_example_com_groupwave_groupwave_mb2c_PreemptionCapability), ("example.com/groupwave/groupwave/mb2c.PreemptionVulnerability", Rows.laid_example_com_groupwave_groupwave_mb2c_PreemptionVulnerability), ("example.com/groupwave/groupwave/mb2c.qosMembers", Rows.laid_example_com_groupwave_groupwave_mb2c_qosMembers)] [.called, .called, .called, .called, .called, .called, .called, .widerDeep] true :=
  Program.laidByTextLater.sub seatTie1 ["example.com/groupwave/groupwave/mb2c.MaxRequestedBandwidthDL", "example.com/groupwave/groupwave/mb2c.GuaranteedBitrateDL", "example.com/groupwave/groupwave/mb2c.QoSClassIdentifier", "example.com/groupwave/groupwave/mb2c.AllocationRetentionPriority", "example.com/groupwave/groupwave/mb2c.PriorityLevel", "example.com/groupwave/groupwave/mb2c.PreemptionCapability", "example.com/groupwave/groupwave/mb2c.PreemptionVulnerability", "example.com/groupwave/groupwave/mb2c.qosMembers"] (by kernel_rfl) (by kernel_rfl)
theorem lawS4279BScript_row_tie : Rows.lawS4279BScriptRow.laidByTextAt .later Ybad.pinned [.called, .called, .called, .called, .called, .called, .called, .widerDeep] true :=
  OpenClaim.laidByTextAt_later rfl rfl tie noOwnUnsafe
theorem lawS4279BRaw_row_tie : Rows.lawS4279BRawRow.laidByTextAt .later Ybad.pinned [.called, .called, .called, .called, .called, .called, .called, .widerDeep] true :=
  OpenClaim.laidByTextAt_later rfl rfl tie noOwnUnsafe
theorem fits2 : Ybad.pinned.checked.prog.listedFits [("unicode/utf8.acceptRanges", Rows.laid_unicode_utf8_acceptRanges), ("example.com/groupwave/groupwave/diameter.UserName", Rows.laid_example_com_groupwave_groupwave_diameter_UserName), ("example.com/groupwave/groupwave/datamgmt.MCPTTID", Rows.laid_example_com_groupwave_groupwave_datamgmt_MCPTTID), ("example.com/groupwave/groupwave/datamgmt.DataIdentificationAVP", Rows.laid_example_com_groupwave_groupwave_datamgmt_DataIdentificationAVP), ("example.com/groupwave/groupwave/datamgmt.DataIdentificationPrefix", Rows.laid_example_com_groupwave_groupwave_datamgmt_DataIdentificationPrefix), ("example.com/groupwave/groupwave/datamgmt.DataIdentificationFlags", Rows.laid_example_com_groupwave_groupwave_datamgmt_DataIdentificationFlags), ("example.com/groupwave/groupwave/datamgmt.UserIdentifier", Rows.laid_example_com_groupwave_groupwave_datamgmt_UserIdentifier), ("example.com/groupwave/groupwave/datamgmt.ExternalIdentifier", Rows.laid_example_com_groupwave_groupwave_datamgmt_ExternalIdentifier), ("example.com/groupwave/groupwave/datamgmt.MSISDN", Rows.laid_example_com_groupwave_groupwave_datamgmt_MSISDN), ("unicode/utf8.first", Rows.laid_unicode_utf8_first)] = true := by
  unfold Program.listedFits
  rw [noOwnUnsafe]
  kernel_rfl
theorem tie2 : Ybad.prog.laidByTextLater [("unicode/utf8.acceptRanges", Rows.laid_unicode_utf8_acceptRanges), ("example.com/groupwave/groupwave/diameter.UserName", Rows.laid_example_com_groupwave_groupwave_diameter_UserName), ("example.com/groupwave/groupwave/datamgmt.MCPTTID", Rows.laid_example_com_groupwave_groupwave_datamgmt_MCPTTID), ("example.com/groupwave/groupwave/datamgmt.DataIdentificationAVP", Rows.laid_example_com_groupwave_groupwave_datamgmt_DataIdentificationAVP), ("example.com/groupwave/groupwave/datamgmt.DataIdentificationPrefix", Rows.laid_example_com_groupwave_groupwave_datamgmt_DataIdentificationPrefix), ("example.com/groupwave/groupwave/datamgmt.DataIdentificationFlags", Rows.laid_example_com_groupwave_groupwave_datamgmt_DataIdentificationFlags), ("example.com/groupwave/groupwave/datamgmt.UserIdentifier", Rows.laid_example_com_groupwave_groupwave_datamgmt_UserIdentifier), ("example.com/groupwave/groupwave/datamgmt.ExternalIdentifier", Rows.laid_example_com_groupwave_groupwave_datamgmt_ExternalIdentifier), ("example.com/groupwave/groupwave/datamgmt.MSISDN", Rows.laid_example_com_groupwave_groupwave_datamgmt_MSISDN)] [.data, .wider, .called, .called, .called, .called, .called, .called, .called] true :=
  Program.laidByTextLater.sub seatTie1 ["unicode/utf8.acceptRanges", "example.com/groupwave/groupwave/diameter.UserName", "example.com/groupwave/groupwave/datamgmt.MCPTTID", "example.com/groupwave/groupwave/datamgmt.DataIdentificationAVP", "example.com/groupwave/groupwave/datamgmt.DataIdentificationPrefix", "example.com/groupwave/groupwave/datamgmt.DataIdentificationFlags", "example.com/groupwave/groupwave/datamgmt.UserIdentifier", "example.com/groupwave/groupwave/datamgmt.ExternalIdentifier", "example.com/groupwave/groupwave/datamgmt.MSISDN"] (by kernel_rfl) (by kernel_rfl)
theorem lawS4279CRoundTrip_row_tie : Rows.lawS4279CRoundTripRow.laidByTextAt .later Ybad.pinned [.data, .wider, .called, .called, .called, .called, .called, .called, .called, .pinned] true :=
  OpenClaim.laidByTextAt_pinned rfl rfl tie2 rfl rfl rfl rfl (fun y hy _e => by
    simp only [Rows.lawS4279CRoundTripRow, List.zip_cons_cons, List.zip_nil_right, List.mem_cons, List.mem_nil_iff, or_false] at hy
    rcases hy with rfl | rfl | rfl | rfl | rfl | rfl | rfl | rfl | rfl | rfl
    · cases _e
    · cases _e
    · cases _e
    · cases _e
    · cases _e
    · cases _e
    · cases _e
    · cases _e
    · cases _e
    · exact ⟨pin_laid_unicode_utf8_first, by kernel_rfl⟩) fits2
theorem lawS4279CCases_row_tie : Rows.lawS4279CCasesRow.laidByTextAt .later Ybad.pinned [.data, .wider, .called, .called, .called, .called, .called, .called, .called, .pinned] true :=
  OpenClaim.laidByTextAt_pinned rfl rfl tie2 rfl rfl rfl rfl (fun y hy _e => by
    simp only [Rows.lawS4279CCasesRow, List.zip_cons_cons, List.zip_nil_right, List.mem_cons, List.mem_nil_iff, or_false] at hy
    rcases hy with rfl | rfl | rfl | rfl | rfl | rfl | rfl | rfl | rfl | rfl
    · cases _e
    · cases _e
    · cases _e
    · cases _e
    · cases _e
    · cases _e
    · cases _e
    · cases _e
    · cases _e
    · exact ⟨pin_laid_unicode_utf8_first, by kernel_rfl⟩) fits2
end Go.Proofs.YbulkcjpcDoor
