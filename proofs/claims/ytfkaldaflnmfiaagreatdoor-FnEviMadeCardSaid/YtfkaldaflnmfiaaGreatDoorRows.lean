/-
  NARROWER THAN 'FOR EVERY INPUT', by the rows' own cells (each row's printed sentence says how): FnEviGuilty: laid · FnEviMade: laid.
  DERIVED. THE GIVEN ROWS OF THIS SEAT. 2 by the template 'for every input the law returns true; each argument reads behind the call as it read before'; 0 by the template 'total and deterministic' (their statements: YtfkaldaflnmfiaaGreatDoorTotals.lean).
  GIVEN WITH THE SEED: the statements are not yours to turn. If you find one false, say at which input.
  Laid BY PROGRAM, IN A SANDBOX (cutbox-rows.mjs): the forced cells as the released guide's own fill.sh prints them over the translation db048bfe985943d4… (all of the seat's roots in one cut). By AI agents, Wed Nov 11 2026. No macro, syntax, notation, axiom, sorry.
-/
import Derived.Test.YtfkaldaflnmfiaaGreatDoorChecked
import GoSem.Claim
import GoSem.ClaimJoined
import GoSem.ClaimMapViews
import Derived.JoinedTies
import Derived.KernelRfl
namespace Go.Proofs.YtfkaldaflnmfiaaGreatDoor
/- THE CELL 'sum', in the pinned program and in every row, IS THE sha256 OF THE DUMP (.gsa) THAT YtfkaldaflnmfiaaGreatDoorProg.lean LOADS. Nothing in Lean hashes anything: it is a label: what it is worth is what the hold of that sum in a sandbox is worth. -/
noncomputable def Tryz.pinned : Pinned := { name := "ytfkaldaflnmfiaagreatdoor", sum := "db048bfe985943d4ff0d1a618513db16011d8cad2a413738d5d344e41fb708ab", checked := Tryz.checked }
namespace Rows
def none {H : Type} : Left H := { results := [], args := [] }

/- WHAT THE LISTED PACKAGE-LEVEL VARIABLES READ AS WHEN THE CALL BEGINS. Each datum BY PROGRAM (the guide's laid-datum.mjs) off the statement by which the dump's own 'gosem.cut.vars' lays the variable. In a bare row this is a premise. The card (YtfkaldaflnmfiaaGreatDoorCards.lean) ties it to the program's text. -/
def laid_pub_witenagemot_pub_sha256_K {H : Type} : DataW H := .agg [.lit (.int .u32 1116352408), .lit (.int .u32 1899447441), .lit (.int .u32 3049323471), .lit (.int .u32 3921009573), .lit (.int .u32 961987163), .lit (.int .u32 1508970993), .lit (.int .u32 2453635748), .lit (.int .u32 2870763221), .lit (.int .u32 3624381080), .lit (.int .u32 310598401), .lit (.int .u32 607225278), .lit (.int .u32 1426881987), .lit (.int .u32 1925078388), .lit (.int .u32 2162078206), .lit (.int .u32 2614888103), .lit (.int .u32 3248222580), .lit (.int .u32 3835390401), .lit (.int .u32 4022224774), .lit (.int .u32 264347078), .lit (.int .u32 604807628), .lit (.int .u32 770255983), .lit (.int .u32 1249150122), .lit (.int .u32 1555081692), .lit (.int .u32 1996064986), .lit (.int .u32 2554220882), .lit (.int .u32 2821834349), .lit (.int .u32 2952996808), .lit (.int .u32 3210313671), .lit (.int .u32 3336571891), .lit (.int .u32 3584528711), .lit (.int .u32 113926993), .lit (.int .u32 338241895), .lit (.int .u32 666307205), .lit (.int .u32 773529912), .lit (.int .u32 1294757372), .lit (.int .u32 1396182291), .lit (.int .u32 1695183700), .lit (.int .u32 1986661051), .lit (.int .u32 2177026350), .lit (.int .u32 2456956037), .lit (.int .u32 2730485921), .lit (.int .u32 2820302411), .lit (.int .u32 3259730800), .lit (.int .u32 3345764771), .lit (.int .u32 3516065817), .lit (.int .u32 3600352804), .lit (.int .u32 4094571909), .lit (.int .u32 275423344), .lit (.int .u32 430227734), .lit (.int .u32 506948616), .lit (.int .u32 659060556), .lit (.int .u32 883997877), .lit (.int .u32 958139571), .lit (.int .u32 1322822218), .lit (.int .u32 1537002063), .lit (.int .u32 1747873779), .lit (.int .u32 1955562222), .lit (.int .u32 2024104815), .lit (.int .u32 2227730452), .lit (.int .u32 2361852424), .lit (.int .u32 2428436474), .lit (.int .u32 2756734187), .lit (.int .u32 3204031479), .lit (.int .u32 3329325298)]
def laid_pub_witenagemot_pub_types_ErrVoteInvalidSignature {H : Type} : DataW H := .iface "*errors.errorString" (.ptr (.agg [.lit (.string [105, 110, 118, 97, 108, 105, 100, 32, 115, 105, 103, 110, 97, 116, 117, 114, 101])]))
def laid_pub_witenagemot_pub_types_ErrTotalVotingPowerOverflow {H : Type} : DataW H := .iface "*errors.errorString" (.ptr (.agg [.lit (.string [116, 111, 116, 97, 108, 32, 118, 111, 116, 105, 110, 103, 32, 112, 111, 119, 101, 114, 32, 111, 102, 32, 114, 101, 115, 117, 108, 116, 105, 110, 103, 32, 118, 97, 108, 115, 101, 116, 32, 101, 120, 99, 101, 101, 100, 115, 32, 109, 97, 120])]))
def laid_pub_witenagemot_pub_evidence_ErrAddressNotValidatorAtHeight {H : Type} : DataW H := .iface "*errors.errorString" (.ptr (.agg [.lit (.string [97, 100, 100, 114, 101, 115, 115, 32, 119, 97, 115, 32, 110, 111, 116, 32, 97, 32, 118, 97, 108, 105, 100, 97, 116, 111, 114, 32, 97, 116, 32, 104, 101, 105, 103, 104, 116])]))
def laid_pub_witenagemot_pub_evidence_ErrDuplicateEvidenceHRTMismatch {H : Type} : DataW H := .iface "*errors.errorString" (.ptr (.agg [.lit (.string [104, 47, 114, 47, 116, 32, 100, 111, 101, 115, 32, 110, 111, 116, 32, 109, 97, 116, 99, 104])]))
def laid_pub_witenagemot_pub_evidence_ErrValidatorAddressesDoNotMatch {H : Type} : DataW H := .iface "*errors.errorString" (.ptr (.agg [.lit (.string [118, 97, 108, 105, 100, 97, 116, 111, 114, 32, 97, 100, 100, 114, 101, 115, 115, 101, 115, 32, 100, 111, 32, 110, 111, 116, 32, 109, 97, 116, 99, 104])]))
def laid_pub_witenagemot_pub_evidence_ErrSameBlockIDs {H : Type} : DataW H := .iface "*errors.errorString" (.ptr (.agg [.lit (.string [98, 108, 111, 99, 107, 32, 73, 68, 115, 32, 97, 114, 101, 32, 116, 104, 101, 32, 115, 97, 109, 101])]))
def laid_pub_witenagemot_pub_evidence_ErrInvalidEvidenceValidators {H : Type} : DataW H := .iface "*errors.errorString" (.ptr (.agg [.lit (.string [105, 110, 118, 97, 108, 105, 100, 32, 101, 118, 105, 100, 101, 110, 99, 101, 32, 118, 97, 108, 105, 100, 97, 116, 111, 114, 115])]))
def laid_pub_witenagemot_pub_evidence_ErrVotingPowerDoesNotMatch {H : Type} : DataW H := .iface "*errors.errorString" (.ptr (.agg [.lit (.string [118, 111, 116, 105, 110, 103, 32, 112, 111, 119, 101, 114, 32, 100, 111, 101, 115, 32, 110, 111, 116, 32, 109, 97, 116, 99, 104])]))
def laid_pub_witenagemot_pub_types_ErrVoteNoSignature {H : Type} : DataW H := .iface "*errors.errorString" (.ptr (.agg [.lit (.string [110, 111, 32, 115, 105, 103, 110, 97, 116, 117, 114, 101])]))

/-- 'laws.FnEviGuilty': WHATEVER THE INPUT: true; the input reads as it did. -/
def fnEviGuiltySpec : ChangeSpec := { name := "fnEviGuilty", fn := fun _ => fun
  | [d1, d2, d3, d4, d5] => { results := [.lit (.bool true)], args := [d1, d2, d3, d4, d5] }
  | _ => none }
def fnEviGuiltyRow : OpenClaim := { program := "ytfkaldaflnmfiaagreatdoor", sum := "db048bfe985943d4ff0d1a618513db16011d8cad2a413738d5d344e41fb708ab", func := "pub-witenagemot/laws.FnEviGuilty", spec := "fnEviGuilty", inPlace := ["internal/bytealg.Compare"], unfollowed := true, recurses := true, named := ["pub-witenagemot/pub/types.ErrTotalVotingPowerOverflow", "pub-witenagemot/pub/sha256._K", "pub-witenagemot/pub/evidence.ErrAddressNotValidatorAtHeight", "pub-witenagemot/pub/evidence.ErrDuplicateEvidenceHRTMismatch", "pub-witenagemot/pub/evidence.ErrValidatorAddressesDoNotMatch", "pub-witenagemot/pub/evidence.ErrSameBlockIDs", "pub-witenagemot/pub/evidence.ErrInvalidEvidenceValidators", "pub-witenagemot/pub/evidence.ErrVotingPowerDoesNotMatch", "pub-witenagemot/pub/types.ErrVoteInvalidSignature"], apart := false, laid := [("pub-witenagemot/pub/sha256._K", laid_pub_witenagemot_pub_sha256_K), ("pub-witenagemot/pub/types.ErrVoteInvalidSignature", laid_pub_witenagemot_pub_types_ErrVoteInvalidSignature), ("pub-witenagemot/pub/types.ErrTotalVotingPowerOverflow", laid_pub_witenagemot_pub_types_ErrTotalVotingPowerOverflow), ("pub-witenagemot/pub/evidence.ErrAddressNotValidatorAtHeight", laid_pub_witenagemot_pub_evidence_ErrAddressNotValidatorAtHeight), ("pub-witenagemot/pub/evidence.ErrDuplicateEvidenceHRTMismatch", laid_pub_witenagemot_pub_evidence_ErrDuplicateEvidenceHRTMismatch), ("pub-witenagemot/pub/evidence.ErrValidatorAddressesDoNotMatch", laid_pub_witenagemot_pub_evidence_ErrValidatorAddressesDoNotMatch), ("pub-witenagemot/pub/evidence.ErrSameBlockIDs", laid_pub_witenagemot_pub_evidence_ErrSameBlockIDs), ("pub-witenagemot/pub/evidence.ErrInvalidEvidenceValidators", laid_pub_witenagemot_pub_evidence_ErrInvalidEvidenceValidators), ("pub-witenagemot/pub/evidence.ErrVotingPowerDoesNotMatch", laid_pub_witenagemot_pub_evidence_ErrVotingPowerDoesNotMatch)] }
def FnEviGuiltySaid : Prop := fnEviGuiltyRow.holds Tryz.pinned (OpenSpec.ofChange fnEviGuiltySpec)

/-- ITS FALSE NEIGHBOUR: 'it returns false'. Refute it at one input. -/
def fnEviGuiltyWrong : ChangeSpec := { name := "fnEviGuilty", fn := fun _ => fun
  | [d1, d2, d3, d4, d5] => { results := [.lit (.bool false)], args := [d1, d2, d3, d4, d5] }
  | _ => none }
def FnEviGuiltyWrongFalsely : Prop := fnEviGuiltyRow.holds Tryz.pinned (OpenSpec.ofChange fnEviGuiltyWrong)

/-- 'laws.FnEviMade': WHATEVER THE INPUT: true; the input reads as it did. -/
def fnEviMadeSpec : ChangeSpec := { name := "fnEviMade", fn := fun _ => fun
  | [d1, d2, d3, d4] => { results := [.lit (.bool true)], args := [d1, d2, d3, d4] }
  | _ => none }
def fnEviMadeRow : OpenClaim := { program := "ytfkaldaflnmfiaagreatdoor", sum := "db048bfe985943d4ff0d1a618513db16011d8cad2a413738d5d344e41fb708ab", func := "pub-witenagemot/laws.FnEviMade", spec := "fnEviMade", inPlace := ["internal/bytealg.Compare", "internal/bytealg.abigen_runtime_cmpstring"], unfollowed := true, recurses := true, named := ["pub-witenagemot/pub/types.ErrTotalVotingPowerOverflow", "pub-witenagemot/pub/sha256._K", "pub-witenagemot/pub/evidence.ErrAddressNotValidatorAtHeight", "pub-witenagemot/pub/evidence.ErrDuplicateEvidenceHRTMismatch", "pub-witenagemot/pub/evidence.ErrValidatorAddressesDoNotMatch", "pub-witenagemot/pub/evidence.ErrSameBlockIDs", "pub-witenagemot/pub/evidence.ErrInvalidEvidenceValidators", "pub-witenagemot/pub/evidence.ErrVotingPowerDoesNotMatch", "pub-witenagemot/pub/types.ErrVoteInvalidSignature", "pub-witenagemot/pub/types.ErrVoteNoSignature"], apart := false, laid := [("pub-witenagemot/pub/sha256._K", laid_pub_witenagemot_pub_sha256_K), ("pub-witenagemot/pub/types.ErrVoteInvalidSignature", laid_pub_witenagemot_pub_types_ErrVoteInvalidSignature), ("pub-witenagemot/pub/types.ErrVoteNoSignature", laid_pub_witenagemot_pub_types_ErrVoteNoSignature), ("pub-witenagemot/pub/types.ErrTotalVotingPowerOverflow", laid_pub_witenagemot_pub_types_ErrTotalVotingPowerOverflow), ("pub-witenagemot/pub/evidence.ErrAddressNotValidatorAtHeight", laid_pub_witenagemot_pub_evidence_ErrAddressNotValidatorAtHeight), ("pub-witenagemot/pub/evidence.ErrDuplicateEvidenceHRTMismatch", laid_pub_witenagemot_pub_evidence_ErrDuplicateEvidenceHRTMismatch), ("pub-witenagemot/pub/evidence.ErrValidatorAddressesDoNotMatch", laid_pub_witenagemot_pub_evidence_ErrValidatorAddressesDoNotMatch), ("pub-witenagemot/pub/evidence.ErrSameBlockIDs", laid_pub_witenagemot_pub_evidence_ErrSameBlockIDs), ("pub-witenagemot/pub/evidence.ErrInvalidEvidenceValidators", laid_pub_witenagemot_pub_evidence_ErrInvalidEvidenceValidators), ("pub-witenagemot/pub/evidence.ErrVotingPowerDoesNotMatch", laid_pub_witenagemot_pub_evidence_ErrVotingPowerDoesNotMatch)] }
def FnEviMadeSaid : Prop := fnEviMadeRow.holds Tryz.pinned (OpenSpec.ofChange fnEviMadeSpec)

/-- ITS FALSE NEIGHBOUR: 'it returns false'. Refute it at one input. -/
def fnEviMadeWrong : ChangeSpec := { name := "fnEviMade", fn := fun _ => fun
  | [d1, d2, d3, d4] => { results := [.lit (.bool false)], args := [d1, d2, d3, d4] }
  | _ => none }
def FnEviMadeWrongFalsely : Prop := fnEviMadeRow.holds Tryz.pinned (OpenSpec.ofChange fnEviMadeWrong)

/- THE SECOND FORM. 'bulk': how many values and letters a reading holds, each counted each time it is reached (what is shared counts as often as it is met; a slice's spare places count too). A statement '..UptoSaid' is the law's where the arguments, and the package variables that the reading takes, are together of bulk at most 1048576: NARROWER than '..Said'. Prove '..Said' where nothing that the law and all that it calls make is longer than what came in: it says more and counts as full. Else prove '..UptoSaid'. A law counts once. -/
mutual
def uptoBulk {H : Type} : DataW H → Nat
  | .lit (.string bytes) => bytes.length + 1
  | .lit _ => 1
  | .nil => 1
  | .ptr d => uptoBulk d + 1
  | .slice elems spare => uptoBulkAll elems + uptoBulkAll spare + 1
  | .agg parts => uptoBulkAll parts + 1
  | .iface _ d => uptoBulk d + 1
  | .map entries => uptoBulkEntries entries + 1
  | .held _ => 1
def uptoBulkAll {H : Type} : List (DataW H) → Nat
  | [] => 0
  | d :: r => uptoBulk d + uptoBulkAll r
def uptoBulkEntries {H : Type} : List (Lit × DataW H) → Nat
  | [] => 0
  | x :: r => uptoBulkEntry x + uptoBulkEntries r
def uptoBulkEntry {H : Type} : Lit × DataW H → Nat
  | (.string bytes, d) => bytes.length + uptoBulk d + 1
  | (_, d) => uptoBulk d + 1
 end
def uptoSmall : (H : Type) → List (DataW H) → Bool := fun _ ds => decide (uptoBulkAll ds ≤ 1048576)
def OpenSpec.upto (s : _root_.Go.ChangeSpec) : _root_.Go.OpenSpec := { _root_.Go.OpenSpec.ofChange s with cond := some uptoSmall }

/-- 'laws.FnEviGuilty', WHERE WHAT IT READS IS OF BULK AT MOST 1048576: true; the input reads as it did. -/
def fnEviGuiltyUptoRow : OpenClaim := { program := "ytfkaldaflnmfiaagreatdoor", sum := "db048bfe985943d4ff0d1a618513db16011d8cad2a413738d5d344e41fb708ab", func := "pub-witenagemot/laws.FnEviGuilty", spec := "fnEviGuilty", inPlace := ["internal/bytealg.Compare"], unfollowed := true, recurses := true, named := ["pub-witenagemot/pub/types.ErrTotalVotingPowerOverflow", "pub-witenagemot/pub/sha256._K", "pub-witenagemot/pub/evidence.ErrAddressNotValidatorAtHeight", "pub-witenagemot/pub/evidence.ErrDuplicateEvidenceHRTMismatch", "pub-witenagemot/pub/evidence.ErrValidatorAddressesDoNotMatch", "pub-witenagemot/pub/evidence.ErrSameBlockIDs", "pub-witenagemot/pub/evidence.ErrInvalidEvidenceValidators", "pub-witenagemot/pub/evidence.ErrVotingPowerDoesNotMatch", "pub-witenagemot/pub/types.ErrVoteInvalidSignature"], apart := false, laid := [("pub-witenagemot/pub/sha256._K", laid_pub_witenagemot_pub_sha256_K), ("pub-witenagemot/pub/types.ErrVoteInvalidSignature", laid_pub_witenagemot_pub_types_ErrVoteInvalidSignature), ("pub-witenagemot/pub/types.ErrTotalVotingPowerOverflow", laid_pub_witenagemot_pub_types_ErrTotalVotingPowerOverflow), ("pub-witenagemot/pub/evidence.ErrAddressNotValidatorAtHeight", laid_pub_witenagemot_pub_evidence_ErrAddressNotValidatorAtHeight), ("pub-witenagemot/pub/evidence.ErrDuplicateEvidenceHRTMismatch", laid_pub_witenagemot_pub_evidence_ErrDuplicateEvidenceHRTMismatch), ("pub-witenagemot/pub/evidence.ErrValidatorAddressesDoNotMatch", laid_pub_witenagemot_pub_evidence_ErrValidatorAddressesDoNotMatch), ("pub-witenagemot/pub/evidence.ErrSameBlockIDs", laid_pub_witenagemot_pub_evidence_ErrSameBlockIDs), ("pub-witenagemot/pub/evidence.ErrInvalidEvidenceValidators", laid_pub_witenagemot_pub_evidence_ErrInvalidEvidenceValidators), ("pub-witenagemot/pub/evidence.ErrVotingPowerDoesNotMatch", laid_pub_witenagemot_pub_evidence_ErrVotingPowerDoesNotMatch)], narrowed := true }
def FnEviGuiltyUptoSaid : Prop := fnEviGuiltyUptoRow.holds Tryz.pinned (OpenSpec.upto fnEviGuiltySpec)

/-- 'laws.FnEviMade', WHERE WHAT IT READS IS OF BULK AT MOST 1048576: true; the input reads as it did. -/
def fnEviMadeUptoRow : OpenClaim := { program := "ytfkaldaflnmfiaagreatdoor", sum := "db048bfe985943d4ff0d1a618513db16011d8cad2a413738d5d344e41fb708ab", func := "pub-witenagemot/laws.FnEviMade", spec := "fnEviMade", inPlace := ["internal/bytealg.Compare", "internal/bytealg.abigen_runtime_cmpstring"], unfollowed := true, recurses := true, named := ["pub-witenagemot/pub/types.ErrTotalVotingPowerOverflow", "pub-witenagemot/pub/sha256._K", "pub-witenagemot/pub/evidence.ErrAddressNotValidatorAtHeight", "pub-witenagemot/pub/evidence.ErrDuplicateEvidenceHRTMismatch", "pub-witenagemot/pub/evidence.ErrValidatorAddressesDoNotMatch", "pub-witenagemot/pub/evidence.ErrSameBlockIDs", "pub-witenagemot/pub/evidence.ErrInvalidEvidenceValidators", "pub-witenagemot/pub/evidence.ErrVotingPowerDoesNotMatch", "pub-witenagemot/pub/types.ErrVoteInvalidSignature", "pub-witenagemot/pub/types.ErrVoteNoSignature"], apart := false, laid := [("pub-witenagemot/pub/sha256._K", laid_pub_witenagemot_pub_sha256_K), ("pub-witenagemot/pub/types.ErrVoteInvalidSignature", laid_pub_witenagemot_pub_types_ErrVoteInvalidSignature), ("pub-witenagemot/pub/types.ErrVoteNoSignature", laid_pub_witenagemot_pub_types_ErrVoteNoSignature), ("pub-witenagemot/pub/types.ErrTotalVotingPowerOverflow", laid_pub_witenagemot_pub_types_ErrTotalVotingPowerOverflow), ("pub-witenagemot/pub/evidence.ErrAddressNotValidatorAtHeight", laid_pub_witenagemot_pub_evidence_ErrAddressNotValidatorAtHeight), ("pub-witenagemot/pub/evidence.ErrDuplicateEvidenceHRTMismatch", laid_pub_witenagemot_pub_evidence_ErrDuplicateEvidenceHRTMismatch), ("pub-witenagemot/pub/evidence.ErrValidatorAddressesDoNotMatch", laid_pub_witenagemot_pub_evidence_ErrValidatorAddressesDoNotMatch), ("pub-witenagemot/pub/evidence.ErrSameBlockIDs", laid_pub_witenagemot_pub_evidence_ErrSameBlockIDs), ("pub-witenagemot/pub/evidence.ErrInvalidEvidenceValidators", laid_pub_witenagemot_pub_evidence_ErrInvalidEvidenceValidators), ("pub-witenagemot/pub/evidence.ErrVotingPowerDoesNotMatch", laid_pub_witenagemot_pub_evidence_ErrVotingPowerDoesNotMatch)], narrowed := true }
def FnEviMadeUptoSaid : Prop := fnEviMadeUptoRow.holds Tryz.pinned (OpenSpec.upto fnEviMadeSpec)

end Rows
end Go.Proofs.YtfkaldaflnmfiaaGreatDoor
