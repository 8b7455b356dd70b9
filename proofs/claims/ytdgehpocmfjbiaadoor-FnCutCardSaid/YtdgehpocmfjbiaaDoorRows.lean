/-
  NARROWER THAN 'FOR EVERY INPUT', by the rows' own cells (each row's printed sentence says how): FnDynamicSymbols: ifaces, laid · FnImported: ifaces, laid · FnNoSymbols: ifaces, laid · FnCut: laid · FnHead: laid · FnMagic: laid · FnSectionBytes: laid · FnProgBytes: laid · FnClasses: laid · FnProgs: laid · FnSections: laid · FnByName: laid · FnByType: laid · FnDynValues: ifaces, laid · FnDynStrings: ifaces, laid · FnLibraries: ifaces, laid · FnSymbols: ifaces, laid.
  DERIVED. THE GIVEN ROWS OF THIS SEAT. 17 by the template 'for every input the law returns true; each argument reads behind the call as it read before'; 0 by the template 'total and deterministic' (their statements: YtdgehpocmfjbiaaDoorTotals.lean).
  GIVEN WITH THE SEED: the statements are not yours to turn. If you find one false, say at which input.
  Laid BY PROGRAM, IN A SANDBOX (cutbox-rows.mjs): the forced cells as the released guide's own fill.sh prints them over the translation 7c8691c9b2c12c30… (all of the seat's roots in one cut). By AI agents, Wed Nov 11 2026. No macro, syntax, notation, axiom, sorry.
-/
import Derived.Test.YtdgehpocmfjbiaaDoorChecked
import GoSem.Claim
import GoSem.ClaimJoined
import GoSem.ClaimMapViews
import Derived.JoinedTies
import Derived.KernelRfl
namespace Go.Proofs.YtdgehpocmfjbiaaDoor
/- THE CELL 'sum', in the pinned program and in every row, IS THE sha256 OF THE DUMP (.gsa) THAT YtdgehpocmfjbiaaDoorProg.lean LOADS. Nothing in Lean hashes anything: it is a label: what it is worth is what the hold of that sum in a sandbox is worth. -/
noncomputable def Tryd.pinned : Pinned := { name := "ytdgehpocmfjbiaadoor", sum := "7c8691c9b2c12c30bf451ee72a937cc4ced401efd8d672800961c516017cfb47", checked := Tryd.checked }
namespace Rows
def none {H : Type} : Left H := { results := [], args := [] }

/- WHAT THE LISTED PACKAGE-LEVEL VARIABLES READ AS WHEN THE CALL BEGINS. Each datum BY PROGRAM (the guide's laid-datum.mjs) off the statement by which the dump's own 'gosem.cut.vars' lays the variable. In a bare row this is a premise. The card (YtdgehpocmfjbiaaDoorCards.lean) ties it to the program's text. -/
def laid_io_ErrShortBuffer {H : Type} : DataW H := .iface "*errors.errorString" (.ptr (.agg [.lit (.string [115, 104, 111, 114, 116, 32, 98, 117, 102, 102, 101, 114])]))
def laid_io_EOF {H : Type} : DataW H := .iface "*errors.errorString" (.ptr (.agg [.lit (.string [69, 79, 70])]))
def laid_io_ErrUnexpectedEOF {H : Type} : DataW H := .iface "*errors.errorString" (.ptr (.agg [.lit (.string [117, 110, 101, 120, 112, 101, 99, 116, 101, 100, 32, 69, 79, 70])]))
def laid_io_errWhence {H : Type} : DataW H := .iface "*errors.errorString" (.ptr (.agg [.lit (.string [83, 101, 101, 107, 58, 32, 105, 110, 118, 97, 108, 105, 100, 32, 119, 104, 101, 110, 99, 101])]))
def laid_io_errOffset {H : Type} : DataW H := .iface "*errors.errorString" (.ptr (.agg [.lit (.string [83, 101, 101, 107, 58, 32, 105, 110, 118, 97, 108, 105, 100, 32, 111, 102, 102, 115, 101, 116])]))
def laid_loop_example_pub_g03028_pub_elf_ErrNoSymbols {H : Type} : DataW H := .iface "*errors.errorString" (.ptr (.agg [.lit (.string [110, 111, 32, 115, 121, 109, 98, 111, 108, 32, 115, 101, 99, 116, 105, 111, 110])]))

/-- 'laws.FnDynamicSymbols': WHATEVER THE INPUT: true; the input reads as it did. -/
def fnDynamicSymbolsSpec : ChangeSpec := { name := "fnDynamicSymbols", vars := ["loop.example/pub-g03028/pub/elf.ErrNoSymbols"], fn := fun _ => fun
  | [d1, d2, g1] => { results := [.lit (.bool true)], args := [d1, d2], vars := [g1] }
  | _ => none }
def fnDynamicSymbolsRow : OpenClaim := { program := "ytdgehpocmfjbiaadoor", sum := "7c8691c9b2c12c30bf451ee72a937cc4ced401efd8d672800961c516017cfb47", func := "loop.example/pub-g03028/laws.FnDynamicSymbols", spec := "fnDynamicSymbols", unfollowed := true, recurses := true, named := ["io.EOF", "io.errWhence", "io.errOffset", "io.ErrShortBuffer", "io.ErrUnexpectedEOF", "loop.example/pub-g03028/pub/elf.ErrNoSymbols"], ifaces := true, apart := false, laid := [("io.ErrShortBuffer", laid_io_ErrShortBuffer), ("io.EOF", laid_io_EOF), ("io.ErrUnexpectedEOF", laid_io_ErrUnexpectedEOF), ("io.errWhence", laid_io_errWhence), ("io.errOffset", laid_io_errOffset), ("loop.example/pub-g03028/pub/elf.ErrNoSymbols", laid_loop_example_pub_g03028_pub_elf_ErrNoSymbols)] }
def FnDynamicSymbolsSaid : Prop := fnDynamicSymbolsRow.holds Tryd.pinned (OpenSpec.ofChange fnDynamicSymbolsSpec)

/-- ITS FALSE NEIGHBOUR: 'it returns false'. Refute it at one input. -/
def fnDynamicSymbolsWrong : ChangeSpec := { name := "fnDynamicSymbols", vars := ["loop.example/pub-g03028/pub/elf.ErrNoSymbols"], fn := fun _ => fun
  | [d1, d2, g1] => { results := [.lit (.bool false)], args := [d1, d2], vars := [g1] }
  | _ => none }
def FnDynamicSymbolsWrongFalsely : Prop := fnDynamicSymbolsRow.holds Tryd.pinned (OpenSpec.ofChange fnDynamicSymbolsWrong)

/-- 'laws.FnImported': WHATEVER THE INPUT: true; the input reads as it did. -/
def fnImportedSpec : ChangeSpec := { name := "fnImported", vars := ["loop.example/pub-g03028/pub/elf.ErrNoSymbols"], fn := fun _ => fun
  | [d1, d2, g1] => { results := [.lit (.bool true)], args := [d1, d2], vars := [g1] }
  | _ => none }
def fnImportedRow : OpenClaim := { program := "ytdgehpocmfjbiaadoor", sum := "7c8691c9b2c12c30bf451ee72a937cc4ced401efd8d672800961c516017cfb47", func := "loop.example/pub-g03028/laws.FnImported", spec := "fnImported", unfollowed := true, recurses := true, named := ["io.EOF", "io.errWhence", "io.errOffset", "io.ErrShortBuffer", "io.ErrUnexpectedEOF", "loop.example/pub-g03028/pub/elf.ErrNoSymbols"], ifaces := true, apart := false, laid := [("io.ErrShortBuffer", laid_io_ErrShortBuffer), ("io.EOF", laid_io_EOF), ("io.ErrUnexpectedEOF", laid_io_ErrUnexpectedEOF), ("io.errWhence", laid_io_errWhence), ("io.errOffset", laid_io_errOffset), ("loop.example/pub-g03028/pub/elf.ErrNoSymbols", laid_loop_example_pub_g03028_pub_elf_ErrNoSymbols)] }
def FnImportedSaid : Prop := fnImportedRow.holds Tryd.pinned (OpenSpec.ofChange fnImportedSpec)

/-- ITS FALSE NEIGHBOUR: 'it returns false'. Refute it at one input. -/
def fnImportedWrong : ChangeSpec := { name := "fnImported", vars := ["loop.example/pub-g03028/pub/elf.ErrNoSymbols"], fn := fun _ => fun
  | [d1, d2, g1] => { results := [.lit (.bool false)], args := [d1, d2], vars := [g1] }
  | _ => none }
def FnImportedWrongFalsely : Prop := fnImportedRow.holds Tryd.pinned (OpenSpec.ofChange fnImportedWrong)

/-- 'laws.FnNoSymbols': WHATEVER THE INPUT: true; the input reads as it did. -/
def fnNoSymbolsSpec : ChangeSpec := { name := "fnNoSymbols", vars := ["loop.example/pub-g03028/pub/elf.ErrNoSymbols"], fn := fun _ => fun
  | [d, g1] => { results := [.lit (.bool true)], args := [d], vars := [g1] }
  | _ => none }
def fnNoSymbolsRow : OpenClaim := { program := "ytdgehpocmfjbiaadoor", sum := "7c8691c9b2c12c30bf451ee72a937cc4ced401efd8d672800961c516017cfb47", func := "loop.example/pub-g03028/laws.FnNoSymbols", spec := "fnNoSymbols", unfollowed := true, recurses := true, named := ["io.EOF", "io.errWhence", "io.errOffset", "io.ErrShortBuffer", "io.ErrUnexpectedEOF", "loop.example/pub-g03028/pub/elf.ErrNoSymbols"], ifaces := true, apart := false, laid := [("io.ErrShortBuffer", laid_io_ErrShortBuffer), ("io.EOF", laid_io_EOF), ("io.ErrUnexpectedEOF", laid_io_ErrUnexpectedEOF), ("io.errWhence", laid_io_errWhence), ("io.errOffset", laid_io_errOffset), ("loop.example/pub-g03028/pub/elf.ErrNoSymbols", laid_loop_example_pub_g03028_pub_elf_ErrNoSymbols)] }
def FnNoSymbolsSaid : Prop := fnNoSymbolsRow.holds Tryd.pinned (OpenSpec.ofChange fnNoSymbolsSpec)

/-- ITS FALSE NEIGHBOUR: 'it returns false'. Refute it at one input. -/
def fnNoSymbolsWrong : ChangeSpec := { name := "fnNoSymbols", vars := ["loop.example/pub-g03028/pub/elf.ErrNoSymbols"], fn := fun _ => fun
  | [d, g1] => { results := [.lit (.bool false)], args := [d], vars := [g1] }
  | _ => none }
def FnNoSymbolsWrongFalsely : Prop := fnNoSymbolsRow.holds Tryd.pinned (OpenSpec.ofChange fnNoSymbolsWrong)

/-- 'laws.FnCut': WHATEVER THE INPUT: true; the input reads as it did. -/
def fnCutSpec : ChangeSpec := { name := "fnCut", fn := fun _ => fun
  | [d1, d2] => { results := [.lit (.bool true)], args := [d1, d2] }
  | _ => none }
def fnCutRow : OpenClaim := { program := "ytdgehpocmfjbiaadoor", sum := "7c8691c9b2c12c30bf451ee72a937cc4ced401efd8d672800961c516017cfb47", func := "loop.example/pub-g03028/laws.FnCut", spec := "fnCut", unfollowed := true, recurses := true, named := ["io.EOF", "io.errWhence", "io.errOffset", "io.ErrShortBuffer", "io.ErrUnexpectedEOF"], apart := false, laid := [("io.ErrShortBuffer", laid_io_ErrShortBuffer), ("io.EOF", laid_io_EOF), ("io.ErrUnexpectedEOF", laid_io_ErrUnexpectedEOF), ("io.errWhence", laid_io_errWhence), ("io.errOffset", laid_io_errOffset)] }
def FnCutSaid : Prop := fnCutRow.holds Tryd.pinned (OpenSpec.ofChange fnCutSpec)

/-- ITS FALSE NEIGHBOUR: 'it returns false'. Refute it at one input. -/
def fnCutWrong : ChangeSpec := { name := "fnCut", fn := fun _ => fun
  | [d1, d2] => { results := [.lit (.bool false)], args := [d1, d2] }
  | _ => none }
def FnCutWrongFalsely : Prop := fnCutRow.holds Tryd.pinned (OpenSpec.ofChange fnCutWrong)

/-- 'laws.FnHead': WHATEVER THE INPUT: true; the input reads as it did. -/
def fnHeadSpec : ChangeSpec := { name := "fnHead", fn := fun _ => fun
  | [d] => { results := [.lit (.bool true)], args := [d] }
  | _ => none }
def fnHeadRow : OpenClaim := { program := "ytdgehpocmfjbiaadoor", sum := "7c8691c9b2c12c30bf451ee72a937cc4ced401efd8d672800961c516017cfb47", func := "loop.example/pub-g03028/laws.FnHead", spec := "fnHead", unfollowed := true, recurses := true, named := ["io.EOF", "io.errWhence", "io.errOffset", "io.ErrShortBuffer", "io.ErrUnexpectedEOF"], apart := false, laid := [("io.ErrShortBuffer", laid_io_ErrShortBuffer), ("io.EOF", laid_io_EOF), ("io.ErrUnexpectedEOF", laid_io_ErrUnexpectedEOF), ("io.errWhence", laid_io_errWhence), ("io.errOffset", laid_io_errOffset)] }
def FnHeadSaid : Prop := fnHeadRow.holds Tryd.pinned (OpenSpec.ofChange fnHeadSpec)

/-- ITS FALSE NEIGHBOUR: 'it returns false'. Refute it at one input. -/
def fnHeadWrong : ChangeSpec := { name := "fnHead", fn := fun _ => fun
  | [d] => { results := [.lit (.bool false)], args := [d] }
  | _ => none }
def FnHeadWrongFalsely : Prop := fnHeadRow.holds Tryd.pinned (OpenSpec.ofChange fnHeadWrong)

/-- 'laws.FnMagic': WHATEVER THE INPUT: true; the input reads as it did. -/
def fnMagicSpec : ChangeSpec := { name := "fnMagic", fn := fun _ => fun
  | [d1, d2, d3] => { results := [.lit (.bool true)], args := [d1, d2, d3] }
  | _ => none }
def fnMagicRow : OpenClaim := { program := "ytdgehpocmfjbiaadoor", sum := "7c8691c9b2c12c30bf451ee72a937cc4ced401efd8d672800961c516017cfb47", func := "loop.example/pub-g03028/laws.FnMagic", spec := "fnMagic", unfollowed := true, recurses := true, named := ["io.EOF", "io.errWhence", "io.errOffset", "io.ErrShortBuffer", "io.ErrUnexpectedEOF"], apart := false, laid := [("io.ErrShortBuffer", laid_io_ErrShortBuffer), ("io.EOF", laid_io_EOF), ("io.ErrUnexpectedEOF", laid_io_ErrUnexpectedEOF), ("io.errWhence", laid_io_errWhence), ("io.errOffset", laid_io_errOffset)] }
def FnMagicSaid : Prop := fnMagicRow.holds Tryd.pinned (OpenSpec.ofChange fnMagicSpec)

/-- ITS FALSE NEIGHBOUR: 'it returns false'. Refute it at one input. -/
def fnMagicWrong : ChangeSpec := { name := "fnMagic", fn := fun _ => fun
  | [d1, d2, d3] => { results := [.lit (.bool false)], args := [d1, d2, d3] }
  | _ => none }
def FnMagicWrongFalsely : Prop := fnMagicRow.holds Tryd.pinned (OpenSpec.ofChange fnMagicWrong)

/-- 'laws.FnSectionBytes': WHATEVER THE INPUT: true; the input reads as it did. -/
def fnSectionBytesSpec : ChangeSpec := { name := "fnSectionBytes", fn := fun _ => fun
  | [d1, d2] => { results := [.lit (.bool true)], args := [d1, d2] }
  | _ => none }
def fnSectionBytesRow : OpenClaim := { program := "ytdgehpocmfjbiaadoor", sum := "7c8691c9b2c12c30bf451ee72a937cc4ced401efd8d672800961c516017cfb47", func := "loop.example/pub-g03028/laws.FnSectionBytes", spec := "fnSectionBytes", unfollowed := true, recurses := true, named := ["io.EOF", "io.errWhence", "io.errOffset", "io.ErrShortBuffer", "io.ErrUnexpectedEOF"], apart := false, laid := [("io.ErrShortBuffer", laid_io_ErrShortBuffer), ("io.EOF", laid_io_EOF), ("io.ErrUnexpectedEOF", laid_io_ErrUnexpectedEOF), ("io.errWhence", laid_io_errWhence), ("io.errOffset", laid_io_errOffset)] }
def FnSectionBytesSaid : Prop := fnSectionBytesRow.holds Tryd.pinned (OpenSpec.ofChange fnSectionBytesSpec)

/-- ITS FALSE NEIGHBOUR: 'it returns false'. Refute it at one input. -/
def fnSectionBytesWrong : ChangeSpec := { name := "fnSectionBytes", fn := fun _ => fun
  | [d1, d2] => { results := [.lit (.bool false)], args := [d1, d2] }
  | _ => none }
def FnSectionBytesWrongFalsely : Prop := fnSectionBytesRow.holds Tryd.pinned (OpenSpec.ofChange fnSectionBytesWrong)

/-- 'laws.FnProgBytes': WHATEVER THE INPUT: true; the input reads as it did. -/
def fnProgBytesSpec : ChangeSpec := { name := "fnProgBytes", fn := fun _ => fun
  | [d1, d2, d3, d4] => { results := [.lit (.bool true)], args := [d1, d2, d3, d4] }
  | _ => none }
def fnProgBytesRow : OpenClaim := { program := "ytdgehpocmfjbiaadoor", sum := "7c8691c9b2c12c30bf451ee72a937cc4ced401efd8d672800961c516017cfb47", func := "loop.example/pub-g03028/laws.FnProgBytes", spec := "fnProgBytes", unfollowed := true, recurses := true, named := ["io.EOF", "io.errWhence", "io.errOffset", "io.ErrShortBuffer", "io.ErrUnexpectedEOF"], apart := false, laid := [("io.ErrShortBuffer", laid_io_ErrShortBuffer), ("io.EOF", laid_io_EOF), ("io.ErrUnexpectedEOF", laid_io_ErrUnexpectedEOF), ("io.errWhence", laid_io_errWhence), ("io.errOffset", laid_io_errOffset)] }
def FnProgBytesSaid : Prop := fnProgBytesRow.holds Tryd.pinned (OpenSpec.ofChange fnProgBytesSpec)

/-- ITS FALSE NEIGHBOUR: 'it returns false'. Refute it at one input. -/
def fnProgBytesWrong : ChangeSpec := { name := "fnProgBytes", fn := fun _ => fun
  | [d1, d2, d3, d4] => { results := [.lit (.bool false)], args := [d1, d2, d3, d4] }
  | _ => none }
def FnProgBytesWrongFalsely : Prop := fnProgBytesRow.holds Tryd.pinned (OpenSpec.ofChange fnProgBytesWrong)

/-- 'laws.FnClasses': WHATEVER THE INPUT: true; the input reads as it did. -/
def fnClassesSpec : ChangeSpec := { name := "fnClasses", fn := fun _ => fun
  | [d1, d2, d3] => { results := [.lit (.bool true)], args := [d1, d2, d3] }
  | _ => none }
def fnClassesRow : OpenClaim := { program := "ytdgehpocmfjbiaadoor", sum := "7c8691c9b2c12c30bf451ee72a937cc4ced401efd8d672800961c516017cfb47", func := "loop.example/pub-g03028/laws.FnClasses", spec := "fnClasses", unfollowed := true, recurses := true, named := ["io.EOF", "io.errWhence", "io.errOffset", "io.ErrShortBuffer", "io.ErrUnexpectedEOF"], apart := false, laid := [("io.ErrShortBuffer", laid_io_ErrShortBuffer), ("io.EOF", laid_io_EOF), ("io.ErrUnexpectedEOF", laid_io_ErrUnexpectedEOF), ("io.errWhence", laid_io_errWhence), ("io.errOffset", laid_io_errOffset)] }
def FnClassesSaid : Prop := fnClassesRow.holds Tryd.pinned (OpenSpec.ofChange fnClassesSpec)

/-- ITS FALSE NEIGHBOUR: 'it returns false'. Refute it at one input. -/
def fnClassesWrong : ChangeSpec := { name := "fnClasses", fn := fun _ => fun
  | [d1, d2, d3] => { results := [.lit (.bool false)], args := [d1, d2, d3] }
  | _ => none }
def FnClassesWrongFalsely : Prop := fnClassesRow.holds Tryd.pinned (OpenSpec.ofChange fnClassesWrong)

/-- 'laws.FnProgs': WHATEVER THE INPUT: true; the input reads as it did. -/
def fnProgsSpec : ChangeSpec := { name := "fnProgs", fn := fun _ => fun
  | [d] => { results := [.lit (.bool true)], args := [d] }
  | _ => none }
def fnProgsRow : OpenClaim := { program := "ytdgehpocmfjbiaadoor", sum := "7c8691c9b2c12c30bf451ee72a937cc4ced401efd8d672800961c516017cfb47", func := "loop.example/pub-g03028/laws.FnProgs", spec := "fnProgs", unfollowed := true, recurses := true, named := ["io.EOF", "io.errWhence", "io.errOffset", "io.ErrShortBuffer", "io.ErrUnexpectedEOF"], apart := false, laid := [("io.ErrShortBuffer", laid_io_ErrShortBuffer), ("io.EOF", laid_io_EOF), ("io.ErrUnexpectedEOF", laid_io_ErrUnexpectedEOF), ("io.errWhence", laid_io_errWhence), ("io.errOffset", laid_io_errOffset)] }
def FnProgsSaid : Prop := fnProgsRow.holds Tryd.pinned (OpenSpec.ofChange fnProgsSpec)

/-- ITS FALSE NEIGHBOUR: 'it returns false'. Refute it at one input. -/
def fnProgsWrong : ChangeSpec := { name := "fnProgs", fn := fun _ => fun
  | [d] => { results := [.lit (.bool false)], args := [d] }
  | _ => none }
def FnProgsWrongFalsely : Prop := fnProgsRow.holds Tryd.pinned (OpenSpec.ofChange fnProgsWrong)

/-- 'laws.FnSections': WHATEVER THE INPUT: true; the input reads as it did. -/
def fnSectionsSpec : ChangeSpec := { name := "fnSections", fn := fun _ => fun
  | [d] => { results := [.lit (.bool true)], args := [d] }
  | _ => none }
def fnSectionsRow : OpenClaim := { program := "ytdgehpocmfjbiaadoor", sum := "7c8691c9b2c12c30bf451ee72a937cc4ced401efd8d672800961c516017cfb47", func := "loop.example/pub-g03028/laws.FnSections", spec := "fnSections", unfollowed := true, recurses := true, named := ["io.EOF", "io.errWhence", "io.errOffset", "io.ErrShortBuffer", "io.ErrUnexpectedEOF"], apart := false, laid := [("io.ErrShortBuffer", laid_io_ErrShortBuffer), ("io.EOF", laid_io_EOF), ("io.ErrUnexpectedEOF", laid_io_ErrUnexpectedEOF), ("io.errWhence", laid_io_errWhence), ("io.errOffset", laid_io_errOffset)] }
def FnSectionsSaid : Prop := fnSectionsRow.holds Tryd.pinned (OpenSpec.ofChange fnSectionsSpec)

/-- ITS FALSE NEIGHBOUR: 'it returns false'. Refute it at one input. -/
def fnSectionsWrong : ChangeSpec := { name := "fnSections", fn := fun _ => fun
  | [d] => { results := [.lit (.bool false)], args := [d] }
  | _ => none }
def FnSectionsWrongFalsely : Prop := fnSectionsRow.holds Tryd.pinned (OpenSpec.ofChange fnSectionsWrong)

/-- 'laws.FnByName': WHATEVER THE INPUT: true; the input reads as it did. -/
def fnByNameSpec : ChangeSpec := { name := "fnByName", fn := fun _ => fun
  | [d1, d2] => { results := [.lit (.bool true)], args := [d1, d2] }
  | _ => none }
def fnByNameRow : OpenClaim := { program := "ytdgehpocmfjbiaadoor", sum := "7c8691c9b2c12c30bf451ee72a937cc4ced401efd8d672800961c516017cfb47", func := "loop.example/pub-g03028/laws.FnByName", spec := "fnByName", unfollowed := true, recurses := true, named := ["io.EOF", "io.errWhence", "io.errOffset", "io.ErrShortBuffer", "io.ErrUnexpectedEOF"], apart := false, laid := [("io.ErrShortBuffer", laid_io_ErrShortBuffer), ("io.EOF", laid_io_EOF), ("io.ErrUnexpectedEOF", laid_io_ErrUnexpectedEOF), ("io.errWhence", laid_io_errWhence), ("io.errOffset", laid_io_errOffset)] }
def FnByNameSaid : Prop := fnByNameRow.holds Tryd.pinned (OpenSpec.ofChange fnByNameSpec)

/-- ITS FALSE NEIGHBOUR: 'it returns false'. Refute it at one input. -/
def fnByNameWrong : ChangeSpec := { name := "fnByName", fn := fun _ => fun
  | [d1, d2] => { results := [.lit (.bool false)], args := [d1, d2] }
  | _ => none }
def FnByNameWrongFalsely : Prop := fnByNameRow.holds Tryd.pinned (OpenSpec.ofChange fnByNameWrong)

/-- 'laws.FnByType': WHATEVER THE INPUT: true; the input reads as it did. -/
def fnByTypeSpec : ChangeSpec := { name := "fnByType", fn := fun _ => fun
  | [d1, d2] => { results := [.lit (.bool true)], args := [d1, d2] }
  | _ => none }
def fnByTypeRow : OpenClaim := { program := "ytdgehpocmfjbiaadoor", sum := "7c8691c9b2c12c30bf451ee72a937cc4ced401efd8d672800961c516017cfb47", func := "loop.example/pub-g03028/laws.FnByType", spec := "fnByType", unfollowed := true, recurses := true, named := ["io.EOF", "io.errWhence", "io.errOffset", "io.ErrShortBuffer", "io.ErrUnexpectedEOF"], apart := false, laid := [("io.ErrShortBuffer", laid_io_ErrShortBuffer), ("io.EOF", laid_io_EOF), ("io.ErrUnexpectedEOF", laid_io_ErrUnexpectedEOF), ("io.errWhence", laid_io_errWhence), ("io.errOffset", laid_io_errOffset)] }
def FnByTypeSaid : Prop := fnByTypeRow.holds Tryd.pinned (OpenSpec.ofChange fnByTypeSpec)

/-- ITS FALSE NEIGHBOUR: 'it returns false'. Refute it at one input. -/
def fnByTypeWrong : ChangeSpec := { name := "fnByType", fn := fun _ => fun
  | [d1, d2] => { results := [.lit (.bool false)], args := [d1, d2] }
  | _ => none }
def FnByTypeWrongFalsely : Prop := fnByTypeRow.holds Tryd.pinned (OpenSpec.ofChange fnByTypeWrong)

/-- 'laws.FnDynValues': WHATEVER THE INPUT: true; the input reads as it did. -/
def fnDynValuesSpec : ChangeSpec := { name := "fnDynValues", vars := ["loop.example/pub-g03028/pub/elf.ErrNoSymbols"], fn := fun _ => fun
  | [d1, d2, d3, g1] => { results := [.lit (.bool true)], args := [d1, d2, d3], vars := [g1] }
  | _ => none }
def fnDynValuesRow : OpenClaim := { program := "ytdgehpocmfjbiaadoor", sum := "7c8691c9b2c12c30bf451ee72a937cc4ced401efd8d672800961c516017cfb47", func := "loop.example/pub-g03028/laws.FnDynValues", spec := "fnDynValues", unfollowed := true, recurses := true, named := ["io.EOF", "io.errWhence", "io.errOffset", "io.ErrShortBuffer", "io.ErrUnexpectedEOF", "loop.example/pub-g03028/pub/elf.ErrNoSymbols"], ifaces := true, apart := false, laid := [("io.ErrShortBuffer", laid_io_ErrShortBuffer), ("io.EOF", laid_io_EOF), ("io.ErrUnexpectedEOF", laid_io_ErrUnexpectedEOF), ("io.errWhence", laid_io_errWhence), ("io.errOffset", laid_io_errOffset), ("loop.example/pub-g03028/pub/elf.ErrNoSymbols", laid_loop_example_pub_g03028_pub_elf_ErrNoSymbols)] }
def FnDynValuesSaid : Prop := fnDynValuesRow.holds Tryd.pinned (OpenSpec.ofChange fnDynValuesSpec)

/-- ITS FALSE NEIGHBOUR: 'it returns false'. Refute it at one input. -/
def fnDynValuesWrong : ChangeSpec := { name := "fnDynValues", vars := ["loop.example/pub-g03028/pub/elf.ErrNoSymbols"], fn := fun _ => fun
  | [d1, d2, d3, g1] => { results := [.lit (.bool false)], args := [d1, d2, d3], vars := [g1] }
  | _ => none }
def FnDynValuesWrongFalsely : Prop := fnDynValuesRow.holds Tryd.pinned (OpenSpec.ofChange fnDynValuesWrong)

/-- 'laws.FnDynStrings': WHATEVER THE INPUT: true; the input reads as it did. -/
def fnDynStringsSpec : ChangeSpec := { name := "fnDynStrings", vars := ["loop.example/pub-g03028/pub/elf.ErrNoSymbols"], fn := fun _ => fun
  | [d1, d2, d3, d4, g1] => { results := [.lit (.bool true)], args := [d1, d2, d3, d4], vars := [g1] }
  | _ => none }
def fnDynStringsRow : OpenClaim := { program := "ytdgehpocmfjbiaadoor", sum := "7c8691c9b2c12c30bf451ee72a937cc4ced401efd8d672800961c516017cfb47", func := "loop.example/pub-g03028/laws.FnDynStrings", spec := "fnDynStrings", unfollowed := true, recurses := true, named := ["io.EOF", "io.errWhence", "io.errOffset", "io.ErrShortBuffer", "io.ErrUnexpectedEOF", "loop.example/pub-g03028/pub/elf.ErrNoSymbols"], ifaces := true, apart := false, laid := [("io.ErrShortBuffer", laid_io_ErrShortBuffer), ("io.EOF", laid_io_EOF), ("io.ErrUnexpectedEOF", laid_io_ErrUnexpectedEOF), ("io.errWhence", laid_io_errWhence), ("io.errOffset", laid_io_errOffset), ("loop.example/pub-g03028/pub/elf.ErrNoSymbols", laid_loop_example_pub_g03028_pub_elf_ErrNoSymbols)] }
def FnDynStringsSaid : Prop := fnDynStringsRow.holds Tryd.pinned (OpenSpec.ofChange fnDynStringsSpec)

/-- ITS FALSE NEIGHBOUR: 'it returns false'. Refute it at one input. -/
def fnDynStringsWrong : ChangeSpec := { name := "fnDynStrings", vars := ["loop.example/pub-g03028/pub/elf.ErrNoSymbols"], fn := fun _ => fun
  | [d1, d2, d3, d4, g1] => { results := [.lit (.bool false)], args := [d1, d2, d3, d4], vars := [g1] }
  | _ => none }
def FnDynStringsWrongFalsely : Prop := fnDynStringsRow.holds Tryd.pinned (OpenSpec.ofChange fnDynStringsWrong)

/-- 'laws.FnLibraries': WHATEVER THE INPUT: true; the input reads as it did. -/
def fnLibrariesSpec : ChangeSpec := { name := "fnLibraries", vars := ["loop.example/pub-g03028/pub/elf.ErrNoSymbols"], fn := fun _ => fun
  | [d1, d2, d3, g1] => { results := [.lit (.bool true)], args := [d1, d2, d3], vars := [g1] }
  | _ => none }
def fnLibrariesRow : OpenClaim := { program := "ytdgehpocmfjbiaadoor", sum := "7c8691c9b2c12c30bf451ee72a937cc4ced401efd8d672800961c516017cfb47", func := "loop.example/pub-g03028/laws.FnLibraries", spec := "fnLibraries", unfollowed := true, recurses := true, named := ["io.EOF", "io.errWhence", "io.errOffset", "io.ErrShortBuffer", "io.ErrUnexpectedEOF", "loop.example/pub-g03028/pub/elf.ErrNoSymbols"], ifaces := true, apart := false, laid := [("io.ErrShortBuffer", laid_io_ErrShortBuffer), ("io.EOF", laid_io_EOF), ("io.ErrUnexpectedEOF", laid_io_ErrUnexpectedEOF), ("io.errWhence", laid_io_errWhence), ("io.errOffset", laid_io_errOffset), ("loop.example/pub-g03028/pub/elf.ErrNoSymbols", laid_loop_example_pub_g03028_pub_elf_ErrNoSymbols)] }
def FnLibrariesSaid : Prop := fnLibrariesRow.holds Tryd.pinned (OpenSpec.ofChange fnLibrariesSpec)

/-- ITS FALSE NEIGHBOUR: 'it returns false'. Refute it at one input. -/
def fnLibrariesWrong : ChangeSpec := { name := "fnLibraries", vars := ["loop.example/pub-g03028/pub/elf.ErrNoSymbols"], fn := fun _ => fun
  | [d1, d2, d3, g1] => { results := [.lit (.bool false)], args := [d1, d2, d3], vars := [g1] }
  | _ => none }
def FnLibrariesWrongFalsely : Prop := fnLibrariesRow.holds Tryd.pinned (OpenSpec.ofChange fnLibrariesWrong)

/-- 'laws.FnSymbols': WHATEVER THE INPUT: true; the input reads as it did. -/
def fnSymbolsSpec : ChangeSpec := { name := "fnSymbols", vars := ["loop.example/pub-g03028/pub/elf.ErrNoSymbols"], fn := fun _ => fun
  | [d1, d2, g1] => { results := [.lit (.bool true)], args := [d1, d2], vars := [g1] }
  | _ => none }
def fnSymbolsRow : OpenClaim := { program := "ytdgehpocmfjbiaadoor", sum := "7c8691c9b2c12c30bf451ee72a937cc4ced401efd8d672800961c516017cfb47", func := "loop.example/pub-g03028/laws.FnSymbols", spec := "fnSymbols", unfollowed := true, recurses := true, named := ["io.EOF", "io.errWhence", "io.errOffset", "io.ErrShortBuffer", "io.ErrUnexpectedEOF", "loop.example/pub-g03028/pub/elf.ErrNoSymbols"], ifaces := true, apart := false, laid := [("io.ErrShortBuffer", laid_io_ErrShortBuffer), ("io.EOF", laid_io_EOF), ("io.ErrUnexpectedEOF", laid_io_ErrUnexpectedEOF), ("io.errWhence", laid_io_errWhence), ("io.errOffset", laid_io_errOffset), ("loop.example/pub-g03028/pub/elf.ErrNoSymbols", laid_loop_example_pub_g03028_pub_elf_ErrNoSymbols)] }
def FnSymbolsSaid : Prop := fnSymbolsRow.holds Tryd.pinned (OpenSpec.ofChange fnSymbolsSpec)

/-- ITS FALSE NEIGHBOUR: 'it returns false'. Refute it at one input. -/
def fnSymbolsWrong : ChangeSpec := { name := "fnSymbols", vars := ["loop.example/pub-g03028/pub/elf.ErrNoSymbols"], fn := fun _ => fun
  | [d1, d2, g1] => { results := [.lit (.bool false)], args := [d1, d2], vars := [g1] }
  | _ => none }
def FnSymbolsWrongFalsely : Prop := fnSymbolsRow.holds Tryd.pinned (OpenSpec.ofChange fnSymbolsWrong)

/- THE SECOND FORM. 'bulk': how many values and letters a reading holds, each counted each time it is reached (what is shared counts as often as it is met; a slice's spare places count too). A statement '..UptoSaid' is the law's where the arguments, and the package variables that the reading takes, are together of bulk at most 1048576: NARROWER than '..Said'. Prove '..Said' where nothing that the law and all that it calls make is longer than what came in: it says more and counts as full. Else prove '..UptoSaid'. A law counts once. -/
mutual
def uptoBulk {H : Type} : DataW H → Nat
  | .lit (.string bytes) => bytes.length + 1
  | .lit _ => 1
  | .nil => 1
  | .ptr d => uptoBulk d + 1
  | .slice elems spare => uptoBulkAll elems + uptoBulkAll spare + 1
  | .agg parts => uptoBulkAll parts + 1
  | .iface _ d => uptoBulk d + 1
  | .map entries => uptoBulkEntries entries + 1
  | .held _ => 1
def uptoBulkAll {H : Type} : List (DataW H) → Nat
  | [] => 0
  | d :: r => uptoBulk d + uptoBulkAll r
def uptoBulkEntries {H : Type} : List (Lit × DataW H) → Nat
  | [] => 0
  | x :: r => uptoBulkEntry x + uptoBulkEntries r
def uptoBulkEntry {H : Type} : Lit × DataW H → Nat
  | (.string bytes, d) => bytes.length + uptoBulk d + 1
  | (_, d) => uptoBulk d + 1
 end
def uptoSmall : (H : Type) → List (DataW H) → Bool := fun _ ds => decide (uptoBulkAll ds ≤ 1048576)
def OpenSpec.upto (s : _root_.Go.ChangeSpec) : _root_.Go.OpenSpec := { _root_.Go.OpenSpec.ofChange s with cond := some uptoSmall }

/-- 'laws.FnDynamicSymbols', WHERE WHAT IT READS IS OF BULK AT MOST 1048576: true; the input reads as it did. -/
def fnDynamicSymbolsUptoRow : OpenClaim := { program := "ytdgehpocmfjbiaadoor", sum := "7c8691c9b2c12c30bf451ee72a937cc4ced401efd8d672800961c516017cfb47", func := "loop.example/pub-g03028/laws.FnDynamicSymbols", spec := "fnDynamicSymbols", unfollowed := true, recurses := true, named := ["io.EOF", "io.errWhence", "io.errOffset", "io.ErrShortBuffer", "io.ErrUnexpectedEOF", "loop.example/pub-g03028/pub/elf.ErrNoSymbols"], ifaces := true, apart := false, laid := [("io.ErrShortBuffer", laid_io_ErrShortBuffer), ("io.EOF", laid_io_EOF), ("io.ErrUnexpectedEOF", laid_io_ErrUnexpectedEOF), ("io.errWhence", laid_io_errWhence), ("io.errOffset", laid_io_errOffset), ("loop.example/pub-g03028/pub/elf.ErrNoSymbols", laid_loop_example_pub_g03028_pub_elf_ErrNoSymbols)], narrowed := true }
def FnDynamicSymbolsUptoSaid : Prop := fnDynamicSymbolsUptoRow.holds Tryd.pinned (OpenSpec.upto fnDynamicSymbolsSpec)

/-- 'laws.FnImported', WHERE WHAT IT READS IS OF BULK AT MOST 1048576: true; the input reads as it did. -/
def fnImportedUptoRow : OpenClaim := { program := "ytdgehpocmfjbiaadoor", sum := "7c8691c9b2c12c30bf451ee72a937cc4ced401efd8d672800961c516017cfb47", func := "loop.example/pub-g03028/laws.FnImported", spec := "fnImported", unfollowed := true, recurses := true, named := ["io.EOF", "io.errWhence", "io.errOffset", "io.ErrShortBuffer", "io.ErrUnexpectedEOF", "loop.example/pub-g03028/pub/elf.ErrNoSymbols"], ifaces := true, apart := false, laid := [("io.ErrShortBuffer", laid_io_ErrShortBuffer), ("io.EOF", laid_io_EOF), ("io.ErrUnexpectedEOF", laid_io_ErrUnexpectedEOF), ("io.errWhence", laid_io_errWhence), ("io.errOffset", laid_io_errOffset), ("loop.example/pub-g03028/pub/elf.ErrNoSymbols", laid_loop_example_pub_g03028_pub_elf_ErrNoSymbols)], narrowed := true }
def FnImportedUptoSaid : Prop := fnImportedUptoRow.holds Tryd.pinned (OpenSpec.upto fnImportedSpec)

/-- 'laws.FnNoSymbols', WHERE WHAT IT READS IS OF BULK AT MOST 1048576: true; the input reads as it did. -/
def fnNoSymbolsUptoRow : OpenClaim := { program := "ytdgehpocmfjbiaadoor", sum := "7c8691c9b2c12c30bf451ee72a937cc4ced401efd8d672800961c516017cfb47", func := "loop.example/pub-g03028/laws.FnNoSymbols", spec := "fnNoSymbols", unfollowed := true, recurses := true, named := ["io.EOF", "io.errWhence", "io.errOffset", "io.ErrShortBuffer", "io.ErrUnexpectedEOF", "loop.example/pub-g03028/pub/elf.ErrNoSymbols"], ifaces := true, apart := false, laid := [("io.ErrShortBuffer", laid_io_ErrShortBuffer), ("io.EOF", laid_io_EOF), ("io.ErrUnexpectedEOF", laid_io_ErrUnexpectedEOF), ("io.errWhence", laid_io_errWhence), ("io.errOffset", laid_io_errOffset), ("loop.example/pub-g03028/pub/elf.ErrNoSymbols", laid_loop_example_pub_g03028_pub_elf_ErrNoSymbols)], narrowed := true }
def FnNoSymbolsUptoSaid : Prop := fnNoSymbolsUptoRow.holds Tryd.pinned (OpenSpec.upto fnNoSymbolsSpec)

/-- 'laws.FnCut', WHERE WHAT IT READS IS OF BULK AT MOST 1048576: true; the input reads as it did. -/
def fnCutUptoRow : OpenClaim := { program := "ytdgehpocmfjbiaadoor", sum := "7c8691c9b2c12c30bf451ee72a937cc4ced401efd8d672800961c516017cfb47", func := "loop.example/pub-g03028/laws.FnCut", spec := "fnCut", unfollowed := true, recurses := true, named := ["io.EOF", "io.errWhence", "io.errOffset", "io.ErrShortBuffer", "io.ErrUnexpectedEOF"], apart := false, laid := [("io.ErrShortBuffer", laid_io_ErrShortBuffer), ("io.EOF", laid_io_EOF), ("io.ErrUnexpectedEOF", laid_io_ErrUnexpectedEOF), ("io.errWhence", laid_io_errWhence), ("io.errOffset", laid_io_errOffset)], narrowed := true }
def FnCutUptoSaid : Prop := fnCutUptoRow.holds Tryd.pinned (OpenSpec.upto fnCutSpec)

/-- 'laws.FnHead', WHERE WHAT IT READS IS OF BULK AT MOST 1048576: true; the input reads as it did. -/
def fnHeadUptoRow : OpenClaim := { program := "ytdgehpocmfjbiaadoor", sum := "7c8691c9b2c12c30bf451ee72a937cc4ced401efd8d672800961c516017cfb47", func := "loop.example/pub-g03028/laws.FnHead", spec := "fnHead", unfollowed := true, recurses := true, named := ["io.EOF", "io.errWhence", "io.errOffset", "io.ErrShortBuffer", "io.ErrUnexpectedEOF"], apart := false, laid := [("io.ErrShortBuffer", laid_io_ErrShortBuffer), ("io.EOF", laid_io_EOF), ("io.ErrUnexpectedEOF", laid_io_ErrUnexpectedEOF), ("io.errWhence", laid_io_errWhence), ("io.errOffset", laid_io_errOffset)], narrowed := true }
def FnHeadUptoSaid : Prop := fnHeadUptoRow.holds Tryd.pinned (OpenSpec.upto fnHeadSpec)

/-- 'laws.FnMagic', WHERE WHAT IT READS IS OF BULK AT MOST 1048576: true; the input reads as it did. -/
def fnMagicUptoRow : OpenClaim := { program := "ytdgehpocmfjbiaadoor", sum := "7c8691c9b2c12c30bf451ee72a937cc4ced401efd8d672800961c516017cfb47", func := "loop.example/pub-g03028/laws.FnMagic", spec := "fnMagic", unfollowed := true, recurses := true, named := ["io.EOF", "io.errWhence", "io.errOffset", "io.ErrShortBuffer", "io.ErrUnexpectedEOF"], apart := false, laid := [("io.ErrShortBuffer", laid_io_ErrShortBuffer), ("io.EOF", laid_io_EOF), ("io.ErrUnexpectedEOF", laid_io_ErrUnexpectedEOF), ("io.errWhence", laid_io_errWhence), ("io.errOffset", laid_io_errOffset)], narrowed := true }
def FnMagicUptoSaid : Prop := fnMagicUptoRow.holds Tryd.pinned (OpenSpec.upto fnMagicSpec)

/-- 'laws.FnSectionBytes', WHERE WHAT IT READS IS OF BULK AT MOST 1048576: true; the input reads as it did. -/
def fnSectionBytesUptoRow : OpenClaim := { program := "ytdgehpocmfjbiaadoor", sum := "7c8691c9b2c12c30bf451ee72a937cc4ced401efd8d672800961c516017cfb47", func := "loop.example/pub-g03028/laws.FnSectionBytes", spec := "fnSectionBytes", unfollowed := true, recurses := true, named := ["io.EOF", "io.errWhence", "io.errOffset", "io.ErrShortBuffer", "io.ErrUnexpectedEOF"], apart := false, laid := [("io.ErrShortBuffer", laid_io_ErrShortBuffer), ("io.EOF", laid_io_EOF), ("io.ErrUnexpectedEOF", laid_io_ErrUnexpectedEOF), ("io.errWhence", laid_io_errWhence), ("io.errOffset", laid_io_errOffset)], narrowed := true }
def FnSectionBytesUptoSaid : Prop := fnSectionBytesUptoRow.holds Tryd.pinned (OpenSpec.upto fnSectionBytesSpec)

/-- 'laws.FnProgBytes', WHERE WHAT IT READS IS OF BULK AT MOST 1048576: true; the input reads as it did. -/
def fnProgBytesUptoRow : OpenClaim := { program := "ytdgehpocmfjbiaadoor", sum := "7c8691c9b2c12c30bf451ee72a937cc4ced401efd8d672800961c516017cfb47", func := "loop.example/pub-g03028/laws.FnProgBytes", spec := "fnProgBytes", unfollowed := true, recurses := true, named := ["io.EOF", "io.errWhence", "io.errOffset", "io.ErrShortBuffer", "io.ErrUnexpectedEOF"], apart := false, laid := [("io.ErrShortBuffer", laid_io_ErrShortBuffer), ("io.EOF", laid_io_EOF), ("io.ErrUnexpectedEOF", laid_io_ErrUnexpectedEOF), ("io.errWhence", laid_io_errWhence), ("io.errOffset", laid_io_errOffset)], narrowed := true }
def FnProgBytesUptoSaid : Prop := fnProgBytesUptoRow.holds Tryd.pinned (OpenSpec.upto fnProgBytesSpec)

/-- 'laws.FnClasses', WHERE WHAT IT READS IS OF BULK AT MOST 1048576: true; the input reads as it did. -/
def fnClassesUptoRow : OpenClaim := { program := "ytdgehpocmfjbiaadoor", sum := "7c8691c9b2c12c30bf451ee72a937cc4ced401efd8d672800961c516017cfb47", func := "loop.example/pub-g03028/laws.FnClasses", spec := "fnClasses", unfollowed := true, recurses := true, named := ["io.EOF", "io.errWhence", "io.errOffset", "io.ErrShortBuffer", "io.ErrUnexpectedEOF"], apart := false, laid := [("io.ErrShortBuffer", laid_io_ErrShortBuffer), ("io.EOF", laid_io_EOF), ("io.ErrUnexpectedEOF", laid_io_ErrUnexpectedEOF), ("io.errWhence", laid_io_errWhence), ("io.errOffset", laid_io_errOffset)], narrowed := true }
def FnClassesUptoSaid : Prop := fnClassesUptoRow.holds Tryd.pinned (OpenSpec.upto fnClassesSpec)

/-- 'laws.FnProgs', WHERE WHAT IT READS IS OF BULK AT MOST 1048576: true; the input reads as it did. -/
def fnProgsUptoRow : OpenClaim := { program := "ytdgehpocmfjbiaadoor", sum := "7c8691c9b2c12c30bf451ee72a937cc4ced401efd8d672800961c516017cfb47", func := "loop.example/pub-g03028/laws.FnProgs", spec := "fnProgs", unfollowed := true, recurses := true, named := ["io.EOF", "io.errWhence", "io.errOffset", "io.ErrShortBuffer", "io.ErrUnexpectedEOF"], apart := false, laid := [("io.ErrShortBuffer", laid_io_ErrShortBuffer), ("io.EOF", laid_io_EOF), ("io.ErrUnexpectedEOF", laid_io_ErrUnexpectedEOF), ("io.errWhence", laid_io_errWhence), ("io.errOffset", laid_io_errOffset)], narrowed := true }
def FnProgsUptoSaid : Prop := fnProgsUptoRow.holds Tryd.pinned (OpenSpec.upto fnProgsSpec)

/-- 'laws.FnSections', WHERE WHAT IT READS IS OF BULK AT MOST 1048576: true; the input reads as it did. -/
def fnSectionsUptoRow : OpenClaim := { program := "ytdgehpocmfjbiaadoor", sum := "7c8691c9b2c12c30bf451ee72a937cc4ced401efd8d672800961c516017cfb47", func := "loop.example/pub-g03028/laws.FnSections", spec := "fnSections", unfollowed := true, recurses := true, named := ["io.EOF", "io.errWhence", "io.errOffset", "io.ErrShortBuffer", "io.ErrUnexpectedEOF"], apart := false, laid := [("io.ErrShortBuffer", laid_io_ErrShortBuffer), ("io.EOF", laid_io_EOF), ("io.ErrUnexpectedEOF", laid_io_ErrUnexpectedEOF), ("io.errWhence", laid_io_errWhence), ("io.errOffset", laid_io_errOffset)], narrowed := true }
def FnSectionsUptoSaid : Prop := fnSectionsUptoRow.holds Tryd.pinned (OpenSpec.upto fnSectionsSpec)

/-- 'laws.FnByName', WHERE WHAT IT READS IS OF BULK AT MOST 1048576: true; the input reads as it did. -/
def fnByNameUptoRow : OpenClaim := { program := "ytdgehpocmfjbiaadoor", sum := "7c8691c9b2c12c30bf451ee72a937cc4ced401efd8d672800961c516017cfb47", func := "loop.example/pub-g03028/laws.FnByName", spec := "fnByName", unfollowed := true, recurses := true, named := ["io.EOF", "io.errWhence", "io.errOffset", "io.ErrShortBuffer", "io.ErrUnexpectedEOF"], apart := false, laid := [("io.ErrShortBuffer", laid_io_ErrShortBuffer), ("io.EOF", laid_io_EOF), ("io.ErrUnexpectedEOF", laid_io_ErrUnexpectedEOF), ("io.errWhence", laid_io_errWhence), ("io.errOffset", laid_io_errOffset)], narrowed := true }
def FnByNameUptoSaid : Prop := fnByNameUptoRow.holds Tryd.pinned (OpenSpec.upto fnByNameSpec)

/-- 'laws.FnByType', WHERE WHAT IT READS IS OF BULK AT MOST 1048576: true; the input reads as it did. -/
def fnByTypeUptoRow : OpenClaim := { program := "ytdgehpocmfjbiaadoor", sum := "7c8691c9b2c12c30bf451ee72a937cc4ced401efd8d672800961c516017cfb47", func := "loop.example/pub-g03028/laws.FnByType", spec := "fnByType", unfollowed := true, recurses := true, named := ["io.EOF", "io.errWhence", "io.errOffset", "io.ErrShortBuffer", "io.ErrUnexpectedEOF"], apart := false, laid := [("io.ErrShortBuffer", laid_io_ErrShortBuffer), ("io.EOF", laid_io_EOF), ("io.ErrUnexpectedEOF", laid_io_ErrUnexpectedEOF), ("io.errWhence", laid_io_errWhence), ("io.errOffset", laid_io_errOffset)], narrowed := true }
def FnByTypeUptoSaid : Prop := fnByTypeUptoRow.holds Tryd.pinned (OpenSpec.upto fnByTypeSpec)

/-- 'laws.FnDynValues', WHERE WHAT IT READS IS OF BULK AT MOST 1048576: true; the input reads as it did. -/
def fnDynValuesUptoRow : OpenClaim := { program := "ytdgehpocmfjbiaadoor", sum := "7c8691c9b2c12c30bf451ee72a937cc4ced401efd8d672800961c516017cfb47", func := "loop.example/pub-g03028/laws.FnDynValues", spec := "fnDynValues", unfollowed := true, recurses := true, named := ["io.EOF", "io.errWhence", "io.errOffset", "io.ErrShortBuffer", "io.ErrUnexpectedEOF", "loop.example/pub-g03028/pub/elf.ErrNoSymbols"], ifaces := true, apart := false, laid := [("io.ErrShortBuffer", laid_io_ErrShortBuffer), ("io.EOF", laid_io_EOF), ("io.ErrUnexpectedEOF", laid_io_ErrUnexpectedEOF), ("io.errWhence", laid_io_errWhence), ("io.errOffset", laid_io_errOffset), ("loop.example/pub-g03028/pub/elf.ErrNoSymbols", laid_loop_example_pub_g03028_pub_elf_ErrNoSymbols)], narrowed := true }
def FnDynValuesUptoSaid : Prop := fnDynValuesUptoRow.holds Tryd.pinned (OpenSpec.upto fnDynValuesSpec)

/-- 'laws.FnDynStrings', WHERE WHAT IT READS IS OF BULK AT MOST 1048576: true; the input reads as it did. -/
def fnDynStringsUptoRow : OpenClaim := { program := "ytdgehpocmfjbiaadoor", sum := "7c8691c9b2c12c30bf451ee72a937cc4ced401efd8d672800961c516017cfb47", func := "loop.example/pub-g03028/laws.FnDynStrings", spec := "fnDynStrings", unfollowed := true, recurses := true, named := ["io.EOF", "io.errWhence", "io.errOffset", "io.ErrShortBuffer", "io.ErrUnexpectedEOF", "loop.example/pub-g03028/pub/elf.ErrNoSymbols"], ifaces := true, apart := false, laid := [("io.ErrShortBuffer", laid_io_ErrShortBuffer), ("io.EOF", laid_io_EOF), ("io.ErrUnexpectedEOF", laid_io_ErrUnexpectedEOF), ("io.errWhence", laid_io_errWhence), ("io.errOffset", laid_io_errOffset), ("loop.example/pub-g03028/pub/elf.ErrNoSymbols", laid_loop_example_pub_g03028_pub_elf_ErrNoSymbols)], narrowed := true }
def FnDynStringsUptoSaid : Prop := fnDynStringsUptoRow.holds Tryd.pinned (OpenSpec.upto fnDynStringsSpec)

/-- 'laws.FnLibraries', WHERE WHAT IT READS IS OF BULK AT MOST 1048576: true; the input reads as it did. -/
def fnLibrariesUptoRow : OpenClaim := { program := "ytdgehpocmfjbiaadoor", sum := "7c8691c9b2c12c30bf451ee72a937cc4ced401efd8d672800961c516017cfb47", func := "loop.example/pub-g03028/laws.FnLibraries", spec := "fnLibraries", unfollowed := true, recurses := true, named := ["io.EOF", "io.errWhence", "io.errOffset", "io.ErrShortBuffer", "io.ErrUnexpectedEOF", "loop.example/pub-g03028/pub/elf.ErrNoSymbols"], ifaces := true, apart := false, laid := [("io.ErrShortBuffer", laid_io_ErrShortBuffer), ("io.EOF", laid_io_EOF), ("io.ErrUnexpectedEOF", laid_io_ErrUnexpectedEOF), ("io.errWhence", laid_io_errWhence), ("io.errOffset", laid_io_errOffset), ("loop.example/pub-g03028/pub/elf.ErrNoSymbols", laid_loop_example_pub_g03028_pub_elf_ErrNoSymbols)], narrowed := true }
def FnLibrariesUptoSaid : Prop := fnLibrariesUptoRow.holds Tryd.pinned (OpenSpec.upto fnLibrariesSpec)

/-- 'laws.FnSymbols', WHERE WHAT IT READS IS OF BULK AT MOST 1048576: true; the input reads as it did. -/
def fnSymbolsUptoRow : OpenClaim := { program := "ytdgehpocmfjbiaadoor", sum := "7c8691c9b2c12c30bf451ee72a937cc4ced401efd8d672800961c516017cfb47", func := "loop.example/pub-g03028/laws.FnSymbols", spec := "fnSymbols", unfollowed := true, recurses := true, named := ["io.EOF", "io.errWhence", "io.errOffset", "io.ErrShortBuffer", "io.ErrUnexpectedEOF", "loop.example/pub-g03028/pub/elf.ErrNoSymbols"], ifaces := true, apart := false, laid := [("io.ErrShortBuffer", laid_io_ErrShortBuffer), ("io.EOF", laid_io_EOF), ("io.ErrUnexpectedEOF", laid_io_ErrUnexpectedEOF), ("io.errWhence", laid_io_errWhence), ("io.errOffset", laid_io_errOffset), ("loop.example/pub-g03028/pub/elf.ErrNoSymbols", laid_loop_example_pub_g03028_pub_elf_ErrNoSymbols)], narrowed := true }
def FnSymbolsUptoSaid : Prop := fnSymbolsUptoRow.holds Tryd.pinned (OpenSpec.upto fnSymbolsSpec)

end Rows
end Go.Proofs.YtdgehpocmfjbiaaDoor
