/-
  NARROWER THAN 'FOR EVERY INPUT', by the rows' own cells (each row's printed sentence says how): FnTells: loops.
  DERIVED. THE GIVEN ROWS OF THIS SEAT. 12 by the template 'for every input the law returns true; each argument reads behind the call as it read before'; 0 by the template 'total and deterministic' (their statements: YtalhhplphlobbaaGreatTotals.lean).
  GIVEN WITH THE SEED: the statements are not yours to turn. If you find one false, say at which input.
  Laid BY PROGRAM, IN A SANDBOX (cutbox-rows.mjs): the forced cells as the released guide's own fill.sh prints them over the translation 67a2cf1fd0b4e66f… (all of the seat's roots in one cut). By AI agents, Wed Nov 11 2026. No macro, syntax, notation, axiom, sorry.
-/
import Derived.Test.YtalhhplphlobbaaGreatChecked
import GoSem.Claim
import GoSem.ClaimJoined
import GoSem.ClaimMapViews
import Derived.JoinedTies
import Derived.KernelRfl
namespace Go.Proofs.YtalhhplphlobbaaGreat
/- THE CELL 'sum', in the pinned program and in every row, IS THE sha256 OF THE DUMP (.gsa) THAT YtalhhplphlobbaaGreatProg.lean LOADS. Nothing in Lean hashes anything: it is a label: what it is worth is what the hold of that sum in a sandbox is worth. -/
noncomputable def Tryz.pinned : Pinned := { name := "ytalhhplphlobbaagreat", sum := "67a2cf1fd0b4e66f01be15eb6de6e3944c88ead32ae292c432f16b8aa53855bf", checked := Tryz.checked }
namespace Rows
def none {H : Type} : Left H := { results := [], args := [] }

/-- 'laws.FnBegins': WHATEVER THE INPUT: true; the input reads as it did. -/
def fnBeginsSpec : ChangeSpec := { name := "fnBegins", fn := fun _ => fun
  | [d] => { results := [.lit (.bool true)], args := [d] }
  | _ => none }
def fnBeginsRow : OpenClaim := { program := "ytalhhplphlobbaagreat", sum := "67a2cf1fd0b4e66f01be15eb6de6e3944c88ead32ae292c432f16b8aa53855bf", func := "pub-comitia/laws.FnBegins", spec := "fnBegins", unfollowed := true, recurses := true, named := ["encoding/binary.LittleEndian"], plainKeys := false, apart := false }
def FnBeginsSaid : Prop := fnBeginsRow.holds Tryz.pinned (OpenSpec.ofChange fnBeginsSpec)

/-- ITS FALSE NEIGHBOUR: 'it returns false'. Refute it at one input. -/
def fnBeginsWrong : ChangeSpec := { name := "fnBegins", fn := fun _ => fun
  | [d] => { results := [.lit (.bool false)], args := [d] }
  | _ => none }
def FnBeginsWrongFalsely : Prop := fnBeginsRow.holds Tryz.pinned (OpenSpec.ofChange fnBeginsWrong)

/-- 'laws.FnTimer': WHATEVER THE INPUT: true; the input reads as it did. -/
def fnTimerSpec : ChangeSpec := { name := "fnTimer", fn := fun _ => fun
  | [d] => { results := [.lit (.bool true)], args := [d] }
  | _ => none }
def fnTimerRow : OpenClaim := { program := "ytalhhplphlobbaagreat", sum := "67a2cf1fd0b4e66f01be15eb6de6e3944c88ead32ae292c432f16b8aa53855bf", func := "pub-comitia/laws.FnTimer", spec := "fnTimer", unfollowed := true, recurses := true, named := ["encoding/binary.LittleEndian"], plainKeys := false, apart := false }
def FnTimerSaid : Prop := fnTimerRow.holds Tryz.pinned (OpenSpec.ofChange fnTimerSpec)

/-- ITS FALSE NEIGHBOUR: 'it returns false'. Refute it at one input. -/
def fnTimerWrong : ChangeSpec := { name := "fnTimer", fn := fun _ => fun
  | [d] => { results := [.lit (.bool false)], args := [d] }
  | _ => none }
def FnTimerWrongFalsely : Prop := fnTimerRow.holds Tryz.pinned (OpenSpec.ofChange fnTimerWrong)

/-- 'laws.FnPreVote': WHATEVER THE INPUT: true; the input reads as it did. -/
def fnPreVoteSpec : ChangeSpec := { name := "fnPreVote", fn := fun _ => fun
  | [d1, d2, d3, d4, d5] => { results := [.lit (.bool true)], args := [d1, d2, d3, d4, d5] }
  | _ => none }
def fnPreVoteRow : OpenClaim := { program := "ytalhhplphlobbaagreat", sum := "67a2cf1fd0b4e66f01be15eb6de6e3944c88ead32ae292c432f16b8aa53855bf", func := "pub-comitia/laws.FnPreVote", spec := "fnPreVote", unfollowed := true, recurses := true, named := ["encoding/binary.LittleEndian"], plainKeys := false, apart := false }
def FnPreVoteSaid : Prop := fnPreVoteRow.holds Tryz.pinned (OpenSpec.ofChange fnPreVoteSpec)

/-- ITS FALSE NEIGHBOUR: 'it returns false'. Refute it at one input. -/
def fnPreVoteWrong : ChangeSpec := { name := "fnPreVote", fn := fun _ => fun
  | [d1, d2, d3, d4, d5] => { results := [.lit (.bool false)], args := [d1, d2, d3, d4, d5] }
  | _ => none }
def FnPreVoteWrongFalsely : Prop := fnPreVoteRow.holds Tryz.pinned (OpenSpec.ofChange fnPreVoteWrong)

/-- 'laws.FnForward': WHATEVER THE INPUT: true; the input reads as it did. -/
def fnForwardSpec : ChangeSpec := { name := "fnForward", fn := fun _ => fun
  | [d1, d2, d3] => { results := [.lit (.bool true)], args := [d1, d2, d3] }
  | _ => none }
def fnForwardRow : OpenClaim := { program := "ytalhhplphlobbaagreat", sum := "67a2cf1fd0b4e66f01be15eb6de6e3944c88ead32ae292c432f16b8aa53855bf", func := "pub-comitia/laws.FnForward", spec := "fnForward", unfollowed := true, recurses := true, named := ["encoding/binary.LittleEndian"], plainKeys := false, apart := false }
def FnForwardSaid : Prop := fnForwardRow.holds Tryz.pinned (OpenSpec.ofChange fnForwardSpec)

/-- ITS FALSE NEIGHBOUR: 'it returns false'. Refute it at one input. -/
def fnForwardWrong : ChangeSpec := { name := "fnForward", fn := fun _ => fun
  | [d1, d2, d3] => { results := [.lit (.bool false)], args := [d1, d2, d3] }
  | _ => none }
def FnForwardWrongFalsely : Prop := fnForwardRow.holds Tryz.pinned (OpenSpec.ofChange fnForwardWrong)

/-- 'laws.FnInstall': WHATEVER THE INPUT: true; the input reads as it did. -/
def fnInstallSpec : ChangeSpec := { name := "fnInstall", fn := fun _ => fun
  | [d1, d2, d3, d4] => { results := [.lit (.bool true)], args := [d1, d2, d3, d4] }
  | _ => none }
def fnInstallRow : OpenClaim := { program := "ytalhhplphlobbaagreat", sum := "67a2cf1fd0b4e66f01be15eb6de6e3944c88ead32ae292c432f16b8aa53855bf", func := "pub-comitia/laws.FnInstall", spec := "fnInstall", unfollowed := true, recurses := true, named := ["encoding/binary.LittleEndian"], plainKeys := false, apart := false }
def FnInstallSaid : Prop := fnInstallRow.holds Tryz.pinned (OpenSpec.ofChange fnInstallSpec)

/-- ITS FALSE NEIGHBOUR: 'it returns false'. Refute it at one input. -/
def fnInstallWrong : ChangeSpec := { name := "fnInstall", fn := fun _ => fun
  | [d1, d2, d3, d4] => { results := [.lit (.bool false)], args := [d1, d2, d3, d4] }
  | _ => none }
def FnInstallWrongFalsely : Prop := fnInstallRow.holds Tryz.pinned (OpenSpec.ofChange fnInstallWrong)

/-- 'laws.FnElection': WHATEVER THE INPUT: true; the input reads as it did. -/
def fnElectionSpec : ChangeSpec := { name := "fnElection", fn := fun _ => fun
  | [d1, d2] => { results := [.lit (.bool true)], args := [d1, d2] }
  | _ => none }
def fnElectionRow : OpenClaim := { program := "ytalhhplphlobbaagreat", sum := "67a2cf1fd0b4e66f01be15eb6de6e3944c88ead32ae292c432f16b8aa53855bf", func := "pub-comitia/laws.FnElection", spec := "fnElection", unfollowed := true, recurses := true, named := ["encoding/binary.LittleEndian"], plainKeys := false, apart := false }
def FnElectionSaid : Prop := fnElectionRow.holds Tryz.pinned (OpenSpec.ofChange fnElectionSpec)

/-- ITS FALSE NEIGHBOUR: 'it returns false'. Refute it at one input. -/
def fnElectionWrong : ChangeSpec := { name := "fnElection", fn := fun _ => fun
  | [d1, d2] => { results := [.lit (.bool false)], args := [d1, d2] }
  | _ => none }
def FnElectionWrongFalsely : Prop := fnElectionRow.holds Tryz.pinned (OpenSpec.ofChange fnElectionWrong)

/-- 'laws.FnPropose': WHATEVER THE INPUT: true; the input reads as it did. -/
def fnProposeSpec : ChangeSpec := { name := "fnPropose", fn := fun _ => fun
  | [d1, d2] => { results := [.lit (.bool true)], args := [d1, d2] }
  | _ => none }
def fnProposeRow : OpenClaim := { program := "ytalhhplphlobbaagreat", sum := "67a2cf1fd0b4e66f01be15eb6de6e3944c88ead32ae292c432f16b8aa53855bf", func := "pub-comitia/laws.FnPropose", spec := "fnPropose", unfollowed := true, recurses := true, named := ["encoding/binary.LittleEndian"], plainKeys := false, apart := false }
def FnProposeSaid : Prop := fnProposeRow.holds Tryz.pinned (OpenSpec.ofChange fnProposeSpec)

/-- ITS FALSE NEIGHBOUR: 'it returns false'. Refute it at one input. -/
def fnProposeWrong : ChangeSpec := { name := "fnPropose", fn := fun _ => fun
  | [d1, d2] => { results := [.lit (.bool false)], args := [d1, d2] }
  | _ => none }
def FnProposeWrongFalsely : Prop := fnProposeRow.holds Tryz.pinned (OpenSpec.ofChange fnProposeWrong)

/-- 'laws.FnRead': WHATEVER THE INPUT: true; the input reads as it did. -/
def fnReadSpec : ChangeSpec := { name := "fnRead", fn := fun _ => fun
  | [d1, d2, d3] => { results := [.lit (.bool true)], args := [d1, d2, d3] }
  | _ => none }
def fnReadRow : OpenClaim := { program := "ytalhhplphlobbaagreat", sum := "67a2cf1fd0b4e66f01be15eb6de6e3944c88ead32ae292c432f16b8aa53855bf", func := "pub-comitia/laws.FnRead", spec := "fnRead", unfollowed := true, recurses := true, named := ["encoding/binary.LittleEndian"], plainKeys := false, apart := false }
def FnReadSaid : Prop := fnReadRow.holds Tryz.pinned (OpenSpec.ofChange fnReadSpec)

/-- ITS FALSE NEIGHBOUR: 'it returns false'. Refute it at one input. -/
def fnReadWrong : ChangeSpec := { name := "fnRead", fn := fun _ => fun
  | [d1, d2, d3] => { results := [.lit (.bool false)], args := [d1, d2, d3] }
  | _ => none }
def FnReadWrongFalsely : Prop := fnReadRow.holds Tryz.pinned (OpenSpec.ofChange fnReadWrong)

/-- 'laws.FnCatchUp': WHATEVER THE INPUT: true; the input reads as it did. -/
def fnCatchUpSpec : ChangeSpec := { name := "fnCatchUp", fn := fun _ => fun
  | [d1, d2] => { results := [.lit (.bool true)], args := [d1, d2] }
  | _ => none }
def fnCatchUpRow : OpenClaim := { program := "ytalhhplphlobbaagreat", sum := "67a2cf1fd0b4e66f01be15eb6de6e3944c88ead32ae292c432f16b8aa53855bf", func := "pub-comitia/laws.FnCatchUp", spec := "fnCatchUp", unfollowed := true, recurses := true, named := ["encoding/binary.LittleEndian"], plainKeys := false, apart := false }
def FnCatchUpSaid : Prop := fnCatchUpRow.holds Tryz.pinned (OpenSpec.ofChange fnCatchUpSpec)

/-- ITS FALSE NEIGHBOUR: 'it returns false'. Refute it at one input. -/
def fnCatchUpWrong : ChangeSpec := { name := "fnCatchUp", fn := fun _ => fun
  | [d1, d2] => { results := [.lit (.bool false)], args := [d1, d2] }
  | _ => none }
def FnCatchUpWrongFalsely : Prop := fnCatchUpRow.holds Tryz.pinned (OpenSpec.ofChange fnCatchUpWrong)

/-- 'laws.FnTells': WHATEVER THE INPUT: true; the input reads as it did. -/
def fnTellsSpec : ChangeSpec := { name := "fnTells", fn := fun _ => fun
  | [d1, d2] => { results := [.lit (.bool true)], args := [d1, d2] }
  | _ => none }
def fnTellsRow : OpenClaim := { program := "ytalhhplphlobbaagreat", sum := "67a2cf1fd0b4e66f01be15eb6de6e3944c88ead32ae292c432f16b8aa53855bf", func := "pub-comitia/laws.FnTells", spec := "fnTells", unfollowed := true, recurses := true, named := ["encoding/binary.LittleEndian"], loops := true, plainKeys := false, apart := false }
def FnTellsSaid : Prop := fnTellsRow.holds Tryz.pinned (OpenSpec.ofChange fnTellsSpec)

/-- ITS FALSE NEIGHBOUR: 'it returns false'. Refute it at one input. -/
def fnTellsWrong : ChangeSpec := { name := "fnTells", fn := fun _ => fun
  | [d1, d2] => { results := [.lit (.bool false)], args := [d1, d2] }
  | _ => none }
def FnTellsWrongFalsely : Prop := fnTellsRow.holds Tryz.pinned (OpenSpec.ofChange fnTellsWrong)

/-- 'laws.FnNetMinority': WHATEVER THE INPUT: true; the input reads as it did. -/
def fnNetMinoritySpec : ChangeSpec := { name := "fnNetMinority", fn := fun _ => fun
  | [d1, d2, d3] => { results := [.lit (.bool true)], args := [d1, d2, d3] }
  | _ => none }
def fnNetMinorityRow : OpenClaim := { program := "ytalhhplphlobbaagreat", sum := "67a2cf1fd0b4e66f01be15eb6de6e3944c88ead32ae292c432f16b8aa53855bf", func := "pub-comitia/laws.FnNetMinority", spec := "fnNetMinority", unfollowed := true, recurses := true, named := ["encoding/binary.LittleEndian"], plainKeys := false, apart := false }
def FnNetMinoritySaid : Prop := fnNetMinorityRow.holds Tryz.pinned (OpenSpec.ofChange fnNetMinoritySpec)

/-- ITS FALSE NEIGHBOUR: 'it returns false'. Refute it at one input. -/
def fnNetMinorityWrong : ChangeSpec := { name := "fnNetMinority", fn := fun _ => fun
  | [d1, d2, d3] => { results := [.lit (.bool false)], args := [d1, d2, d3] }
  | _ => none }
def FnNetMinorityWrongFalsely : Prop := fnNetMinorityRow.holds Tryz.pinned (OpenSpec.ofChange fnNetMinorityWrong)

/-- 'laws.FnNetLive': WHATEVER THE INPUT: true; the input reads as it did. -/
def fnNetLiveSpec : ChangeSpec := { name := "fnNetLive", fn := fun _ => fun
  | [d1, d2, d3] => { results := [.lit (.bool true)], args := [d1, d2, d3] }
  | _ => none }
def fnNetLiveRow : OpenClaim := { program := "ytalhhplphlobbaagreat", sum := "67a2cf1fd0b4e66f01be15eb6de6e3944c88ead32ae292c432f16b8aa53855bf", func := "pub-comitia/laws.FnNetLive", spec := "fnNetLive", unfollowed := true, recurses := true, named := ["encoding/binary.LittleEndian"], plainKeys := false, apart := false }
def FnNetLiveSaid : Prop := fnNetLiveRow.holds Tryz.pinned (OpenSpec.ofChange fnNetLiveSpec)

/-- ITS FALSE NEIGHBOUR: 'it returns false'. Refute it at one input. -/
def fnNetLiveWrong : ChangeSpec := { name := "fnNetLive", fn := fun _ => fun
  | [d1, d2, d3] => { results := [.lit (.bool false)], args := [d1, d2, d3] }
  | _ => none }
def FnNetLiveWrongFalsely : Prop := fnNetLiveRow.holds Tryz.pinned (OpenSpec.ofChange fnNetLiveWrong)

/- THE SECOND FORM. 'bulk': how many values and letters a reading holds, each counted each time it is reached (what is shared counts as often as it is met; a slice's spare places count too). A statement '..UptoSaid' is the law's where the arguments, and the package variables that the reading takes, are together of bulk at most 1048576: NARROWER than '..Said'. Prove '..Said' where nothing that the law and all that it calls make is longer than what came in: it says more and counts as full. Else prove '..UptoSaid'. A law counts once. -/
mutual
def uptoBulk {H : Type} : DataW H → Nat
  | .lit (.string bytes) => bytes.length + 1
  | .lit _ => 1
  | .nil => 1
  | .ptr d => uptoBulk d + 1
  | .slice elems spare => uptoBulkAll elems + uptoBulkAll spare + 1
  | .agg parts => uptoBulkAll parts + 1
  | .iface _ d => uptoBulk d + 1
  | .map entries => uptoBulkEntries entries + 1
  | .held _ => 1
def uptoBulkAll {H : Type} : List (DataW H) → Nat
  | [] => 0
  | d :: r => uptoBulk d + uptoBulkAll r
def uptoBulkEntries {H : Type} : List (Lit × DataW H) → Nat
  | [] => 0
  | x :: r => uptoBulkEntry x + uptoBulkEntries r
def uptoBulkEntry {H : Type} : Lit × DataW H → Nat
  | (.string bytes, d) => bytes.length + uptoBulk d + 1
  | (_, d) => uptoBulk d + 1
 end
def uptoSmall : (H : Type) → List (DataW H) → Bool := fun _ ds => decide (uptoBulkAll ds ≤ 1048576)
def OpenSpec.upto (s : _root_.Go.ChangeSpec) : _root_.Go.OpenSpec := { _root_.Go.OpenSpec.ofChange s with cond := some uptoSmall }

/-- 'laws.FnBegins', WHERE WHAT IT READS IS OF BULK AT MOST 1048576: true; the input reads as it did. -/
def fnBeginsUptoRow : OpenClaim := { program := "ytalhhplphlobbaagreat", sum := "67a2cf1fd0b4e66f01be15eb6de6e3944c88ead32ae292c432f16b8aa53855bf", func := "pub-comitia/laws.FnBegins", spec := "fnBegins", unfollowed := true, recurses := true, named := ["encoding/binary.LittleEndian"], plainKeys := false, apart := false, narrowed := true }
def FnBeginsUptoSaid : Prop := fnBeginsUptoRow.holds Tryz.pinned (OpenSpec.upto fnBeginsSpec)

/-- 'laws.FnTimer', WHERE WHAT IT READS IS OF BULK AT MOST 1048576: true; the input reads as it did. -/
def fnTimerUptoRow : OpenClaim := { program := "ytalhhplphlobbaagreat", sum := "67a2cf1fd0b4e66f01be15eb6de6e3944c88ead32ae292c432f16b8aa53855bf", func := "pub-comitia/laws.FnTimer", spec := "fnTimer", unfollowed := true, recurses := true, named := ["encoding/binary.LittleEndian"], plainKeys := false, apart := false, narrowed := true }
def FnTimerUptoSaid : Prop := fnTimerUptoRow.holds Tryz.pinned (OpenSpec.upto fnTimerSpec)

/-- 'laws.FnPreVote', WHERE WHAT IT READS IS OF BULK AT MOST 1048576: true; the input reads as it did. -/
def fnPreVoteUptoRow : OpenClaim := { program := "ytalhhplphlobbaagreat", sum := "67a2cf1fd0b4e66f01be15eb6de6e3944c88ead32ae292c432f16b8aa53855bf", func := "pub-comitia/laws.FnPreVote", spec := "fnPreVote", unfollowed := true, recurses := true, named := ["encoding/binary.LittleEndian"], plainKeys := false, apart := false, narrowed := true }
def FnPreVoteUptoSaid : Prop := fnPreVoteUptoRow.holds Tryz.pinned (OpenSpec.upto fnPreVoteSpec)

/-- 'laws.FnForward', WHERE WHAT IT READS IS OF BULK AT MOST 1048576: true; the input reads as it did. -/
def fnForwardUptoRow : OpenClaim := { program := "ytalhhplphlobbaagreat", sum := "67a2cf1fd0b4e66f01be15eb6de6e3944c88ead32ae292c432f16b8aa53855bf", func := "pub-comitia/laws.FnForward", spec := "fnForward", unfollowed := true, recurses := true, named := ["encoding/binary.LittleEndian"], plainKeys := false, apart := false, narrowed := true }
def FnForwardUptoSaid : Prop := fnForwardUptoRow.holds Tryz.pinned (OpenSpec.upto fnForwardSpec)

/-- 'laws.FnInstall', WHERE WHAT IT READS IS OF BULK AT MOST 1048576: true; the input reads as it did. -/
def fnInstallUptoRow : OpenClaim := { program := "ytalhhplphlobbaagreat", sum := "67a2cf1fd0b4e66f01be15eb6de6e3944c88ead32ae292c432f16b8aa53855bf", func := "pub-comitia/laws.FnInstall", spec := "fnInstall", unfollowed := true, recurses := true, named := ["encoding/binary.LittleEndian"], plainKeys := false, apart := false, narrowed := true }
def FnInstallUptoSaid : Prop := fnInstallUptoRow.holds Tryz.pinned (OpenSpec.upto fnInstallSpec)

/-- 'laws.FnElection', WHERE WHAT IT READS IS OF BULK AT MOST 1048576: true; the input reads as it did. -/
def fnElectionUptoRow : OpenClaim := { program := "ytalhhplphlobbaagreat", sum := "67a2cf1fd0b4e66f01be15eb6de6e3944c88ead32ae292c432f16b8aa53855bf", func := "pub-comitia/laws.FnElection", spec := "fnElection", unfollowed := true, recurses := true, named := ["encoding/binary.LittleEndian"], plainKeys := false, apart := false, narrowed := true }
def FnElectionUptoSaid : Prop := fnElectionUptoRow.holds Tryz.pinned (OpenSpec.upto fnElectionSpec)

/-- 'laws.FnPropose', WHERE WHAT IT READS IS OF BULK AT MOST 1048576: true; the input reads as it did. -/
def fnProposeUptoRow : OpenClaim := { program := "ytalhhplphlobbaagreat", sum := "67a2cf1fd0b4e66f01be15eb6de6e3944c88ead32ae292c432f16b8aa53855bf", func := "pub-comitia/laws.FnPropose", spec := "fnPropose", unfollowed := true, recurses := true, named := ["encoding/binary.LittleEndian"], plainKeys := false, apart := false, narrowed := true }
def FnProposeUptoSaid : Prop := fnProposeUptoRow.holds Tryz.pinned (OpenSpec.upto fnProposeSpec)

/-- 'laws.FnRead', WHERE WHAT IT READS IS OF BULK AT MOST 1048576: true; the input reads as it did. -/
def fnReadUptoRow : OpenClaim := { program := "ytalhhplphlobbaagreat", sum := "67a2cf1fd0b4e66f01be15eb6de6e3944c88ead32ae292c432f16b8aa53855bf", func := "pub-comitia/laws.FnRead", spec := "fnRead", unfollowed := true, recurses := true, named := ["encoding/binary.LittleEndian"], plainKeys := false, apart := false, narrowed := true }
def FnReadUptoSaid : Prop := fnReadUptoRow.holds Tryz.pinned (OpenSpec.upto fnReadSpec)

/-- 'laws.FnCatchUp', WHERE WHAT IT READS IS OF BULK AT MOST 1048576: true; the input reads as it did. -/
def fnCatchUpUptoRow : OpenClaim := { program := "ytalhhplphlobbaagreat", sum := "67a2cf1fd0b4e66f01be15eb6de6e3944c88ead32ae292c432f16b8aa53855bf", func := "pub-comitia/laws.FnCatchUp", spec := "fnCatchUp", unfollowed := true, recurses := true, named := ["encoding/binary.LittleEndian"], plainKeys := false, apart := false, narrowed := true }
def FnCatchUpUptoSaid : Prop := fnCatchUpUptoRow.holds Tryz.pinned (OpenSpec.upto fnCatchUpSpec)

/-- 'laws.FnTells', WHERE WHAT IT READS IS OF BULK AT MOST 1048576: true; the input reads as it did. -/
def fnTellsUptoRow : OpenClaim := { program := "ytalhhplphlobbaagreat", sum := "67a2cf1fd0b4e66f01be15eb6de6e3944c88ead32ae292c432f16b8aa53855bf", func := "pub-comitia/laws.FnTells", spec := "fnTells", unfollowed := true, recurses := true, named := ["encoding/binary.LittleEndian"], loops := true, plainKeys := false, apart := false, narrowed := true }
def FnTellsUptoSaid : Prop := fnTellsUptoRow.holds Tryz.pinned (OpenSpec.upto fnTellsSpec)

/-- 'laws.FnNetMinority', WHERE WHAT IT READS IS OF BULK AT MOST 1048576: true; the input reads as it did. -/
def fnNetMinorityUptoRow : OpenClaim := { program := "ytalhhplphlobbaagreat", sum := "67a2cf1fd0b4e66f01be15eb6de6e3944c88ead32ae292c432f16b8aa53855bf", func := "pub-comitia/laws.FnNetMinority", spec := "fnNetMinority", unfollowed := true, recurses := true, named := ["encoding/binary.LittleEndian"], plainKeys := false, apart := false, narrowed := true }
def FnNetMinorityUptoSaid : Prop := fnNetMinorityUptoRow.holds Tryz.pinned (OpenSpec.upto fnNetMinoritySpec)

/-- 'laws.FnNetLive', WHERE WHAT IT READS IS OF BULK AT MOST 1048576: true; the input reads as it did. -/
def fnNetLiveUptoRow : OpenClaim := { program := "ytalhhplphlobbaagreat", sum := "67a2cf1fd0b4e66f01be15eb6de6e3944c88ead32ae292c432f16b8aa53855bf", func := "pub-comitia/laws.FnNetLive", spec := "fnNetLive", unfollowed := true, recurses := true, named := ["encoding/binary.LittleEndian"], plainKeys := false, apart := false, narrowed := true }
def FnNetLiveUptoSaid : Prop := fnNetLiveUptoRow.holds Tryz.pinned (OpenSpec.upto fnNetLiveSpec)

end Rows
end Go.Proofs.YtalhhplphlobbaaGreat
