/-
  NARROWER THAN 'FOR EVERY INPUT', by the rows' own cells (each row's printed sentence says how): FnHandlePlaces: laid · FnSeekByEnds: laid · FnTruncateCuts: laid · FnWritesApart: laid · FnUnionReadOnly: laid · FnUnionReadsLayer: laid.
  DERIVED. THE GIVEN ROWS OF THIS SEAT. 6 by the template 'for every input the law returns true; each argument reads behind the call as it read before'; 0 by the template 'total and deterministic' (their statements: YtnkhfdnahnphdaaDoorTotals.lean).
  GIVEN WITH THE SEED: the statements are not yours to turn. If you find one false, say at which input.
  Laid BY PROGRAM, IN A SANDBOX (cutbox-rows.mjs): the forced cells as the released guide's own fill.sh prints them over the translation 37ee54857b0d095a… (all of the seat's roots in one cut). By AI agents, Wed Nov 11 2026. No macro, syntax, notation, axiom, sorry.
-/
import Derived.Test.YtnkhfdnahnphdaaDoorChecked
import GoSem.Claim
import GoSem.ClaimJoined
import GoSem.ClaimMapViews
import Derived.JoinedTies
import Derived.KernelRfl
namespace Go.Proofs.YtnkhfdnahnphdaaDoor
/- THE CELL 'sum', in the pinned program and in every row, IS THE sha256 OF THE DUMP (.gsa) THAT YtnkhfdnahnphdaaDoorProg.lean LOADS. Nothing in Lean hashes anything: it is a label: what it is worth is what the hold of that sum in a sandbox is worth. -/
noncomputable def Tryd.pinned : Pinned := { name := "ytnkhfdnahnphdaadoor", sum := "37ee54857b0d095a0098eb187cd6fe1795f8e2f718f4bf741f138cb481bd6767", checked := Tryd.checked }
namespace Rows
def none {H : Type} : Left H := { results := [], args := [] }

/- WHAT THE LISTED PACKAGE-LEVEL VARIABLES READ AS WHEN THE CALL BEGINS. Each datum BY PROGRAM (the guide's laid-datum.mjs) off the statement by which the dump's own 'gosem.cut.vars' lays the variable. In a bare row this is a premise. The card (YtnkhfdnahnphdaaDoorCards.lean) ties it to the program's text. -/
def laid_pub_marram_pub_afero_inner_os_ErrExist {H : Type} : DataW H := .iface "*errors.errorString" (.ptr (.agg [.lit (.string [102, 105, 108, 101, 32, 97, 108, 114, 101, 97, 100, 121, 32, 101, 120, 105, 115, 116, 115])]))
def laid_pub_marram_pub_afero_inner_os_ErrNotExist {H : Type} : DataW H := .iface "*errors.errorString" (.ptr (.agg [.lit (.string [102, 105, 108, 101, 32, 100, 111, 101, 115, 32, 110, 111, 116, 32, 101, 120, 105, 115, 116])]))
def laid_pub_marram_pub_afero_inner_os_ENOENT {H : Type} : DataW H := .iface "*errors.errorString" (.ptr (.agg [.lit (.string [110, 111, 32, 115, 117, 99, 104, 32, 102, 105, 108, 101, 32, 111, 114, 32, 100, 105, 114, 101, 99, 116, 111, 114, 121])]))
def laid_pub_marram_pub_afero_inner_os_ENOTDIR {H : Type} : DataW H := .iface "*errors.errorString" (.ptr (.agg [.lit (.string [110, 111, 116, 32, 97, 32, 100, 105, 114, 101, 99, 116, 111, 114, 121])]))
def laid_pub_marram_pub_afero_inner_os_EPERM {H : Type} : DataW H := .iface "*errors.errorString" (.ptr (.agg [.lit (.string [111, 112, 101, 114, 97, 116, 105, 111, 110, 32, 110, 111, 116, 32, 112, 101, 114, 109, 105, 116, 116, 101, 100])]))
def laid_pub_marram_pub_afero_inner_os_EIO {H : Type} : DataW H := .iface "*errors.errorString" (.ptr (.agg [.lit (.string [105, 110, 112, 117, 116, 47, 111, 117, 116, 112, 117, 116, 32, 101, 114, 114, 111, 114])]))
def laid_pub_marram_pub_afero_inner_os_EBADFD {H : Type} : DataW H := .iface "*errors.errorString" (.ptr (.agg [.lit (.string [102, 105, 108, 101, 32, 100, 101, 115, 99, 114, 105, 112, 116, 111, 114, 32, 105, 110, 32, 98, 97, 100, 32, 115, 116, 97, 116, 101])]))
def laid_io_EOF {H : Type} : DataW H := .iface "*errors.errorString" (.ptr (.agg [.lit (.string [69, 79, 70])]))
def laid_io_ErrUnexpectedEOF {H : Type} : DataW H := .iface "*errors.errorString" (.ptr (.agg [.lit (.string [117, 110, 101, 120, 112, 101, 99, 116, 101, 100, 32, 69, 79, 70])]))
def laid_pub_marram_pub_afero_mem_ErrFileClosed {H : Type} : DataW H := .iface "*errors.errorString" (.ptr (.agg [.lit (.string [70, 105, 108, 101, 32, 105, 115, 32, 99, 108, 111, 115, 101, 100])]))
def laid_pub_marram_pub_afero_mem_ErrOutOfRange {H : Type} : DataW H := .iface "*errors.errorString" (.ptr (.agg [.lit (.string [111, 117, 116, 32, 111, 102, 32, 114, 97, 110, 103, 101])]))

/-- 'laws.FnHandlePlaces': WHATEVER THE INPUT: true; the input reads as it did. -/
def fnHandlePlacesSpec : ChangeSpec := { name := "fnHandlePlaces", fn := fun _ => fun
  | [d1, d2] => { results := [.lit (.bool true)], args := [d1, d2] }
  | _ => none }
def fnHandlePlacesRow : OpenClaim := { program := "ytnkhfdnahnphdaadoor", sum := "37ee54857b0d095a0098eb187cd6fe1795f8e2f718f4bf741f138cb481bd6767", func := "pub-marram/laws.FnHandlePlaces", spec := "fnHandlePlaces", named := ["pub-marram/pub/afero/mem.ErrFileClosed", "io.EOF", "io.ErrUnexpectedEOF", "pub-marram/pub/afero/mem.ErrOutOfRange", "pub-marram/pub/afero/inner/os.ErrNotExist", "pub-marram/pub/afero/inner/os.ErrExist", "pub-marram/pub/afero/inner/os.ENOTDIR", "pub-marram/pub/afero/inner/os.ENOENT", "pub-marram/pub/afero/inner/os.EPERM", "pub-marram/pub/afero/inner/os.EBADFD", "pub-marram/pub/afero/inner/os.EIO"], apart := false, laid := [("pub-marram/pub/afero/inner/os.ErrExist", laid_pub_marram_pub_afero_inner_os_ErrExist), ("pub-marram/pub/afero/inner/os.ErrNotExist", laid_pub_marram_pub_afero_inner_os_ErrNotExist), ("pub-marram/pub/afero/inner/os.ENOENT", laid_pub_marram_pub_afero_inner_os_ENOENT), ("pub-marram/pub/afero/inner/os.ENOTDIR", laid_pub_marram_pub_afero_inner_os_ENOTDIR), ("pub-marram/pub/afero/inner/os.EPERM", laid_pub_marram_pub_afero_inner_os_EPERM), ("pub-marram/pub/afero/inner/os.EIO", laid_pub_marram_pub_afero_inner_os_EIO), ("pub-marram/pub/afero/inner/os.EBADFD", laid_pub_marram_pub_afero_inner_os_EBADFD), ("io.EOF", laid_io_EOF), ("io.ErrUnexpectedEOF", laid_io_ErrUnexpectedEOF), ("pub-marram/pub/afero/mem.ErrFileClosed", laid_pub_marram_pub_afero_mem_ErrFileClosed), ("pub-marram/pub/afero/mem.ErrOutOfRange", laid_pub_marram_pub_afero_mem_ErrOutOfRange)] }
def FnHandlePlacesSaid : Prop := fnHandlePlacesRow.holds Tryd.pinned (OpenSpec.ofChange fnHandlePlacesSpec)

/-- ITS FALSE NEIGHBOUR: 'it returns false'. Refute it at one input. -/
def fnHandlePlacesWrong : ChangeSpec := { name := "fnHandlePlaces", fn := fun _ => fun
  | [d1, d2] => { results := [.lit (.bool false)], args := [d1, d2] }
  | _ => none }
def FnHandlePlacesWrongFalsely : Prop := fnHandlePlacesRow.holds Tryd.pinned (OpenSpec.ofChange fnHandlePlacesWrong)

/-- 'laws.FnSeekByEnds': WHATEVER THE INPUT: true; the input reads as it did. -/
def fnSeekByEndsSpec : ChangeSpec := { name := "fnSeekByEnds", fn := fun _ => fun
  | [d1, d2, d3] => { results := [.lit (.bool true)], args := [d1, d2, d3] }
  | _ => none }
def fnSeekByEndsRow : OpenClaim := { program := "ytnkhfdnahnphdaadoor", sum := "37ee54857b0d095a0098eb187cd6fe1795f8e2f718f4bf741f138cb481bd6767", func := "pub-marram/laws.FnSeekByEnds", spec := "fnSeekByEnds", unfollowed := true, recurses := true, named := ["pub-marram/pub/afero/mem.ErrFileClosed", "io.EOF", "io.ErrUnexpectedEOF", "pub-marram/pub/afero/mem.ErrOutOfRange", "pub-marram/pub/afero/inner/os.ErrNotExist", "pub-marram/pub/afero/inner/os.ErrExist", "pub-marram/pub/afero/inner/os.ENOTDIR", "pub-marram/pub/afero/inner/os.ENOENT", "pub-marram/pub/afero/inner/os.EPERM", "pub-marram/pub/afero/inner/os.EBADFD", "pub-marram/pub/afero/inner/os.EIO"], apart := false, laid := [("pub-marram/pub/afero/inner/os.ErrExist", laid_pub_marram_pub_afero_inner_os_ErrExist), ("pub-marram/pub/afero/inner/os.ErrNotExist", laid_pub_marram_pub_afero_inner_os_ErrNotExist), ("pub-marram/pub/afero/inner/os.ENOENT", laid_pub_marram_pub_afero_inner_os_ENOENT), ("pub-marram/pub/afero/inner/os.ENOTDIR", laid_pub_marram_pub_afero_inner_os_ENOTDIR), ("pub-marram/pub/afero/inner/os.EPERM", laid_pub_marram_pub_afero_inner_os_EPERM), ("pub-marram/pub/afero/inner/os.EIO", laid_pub_marram_pub_afero_inner_os_EIO), ("pub-marram/pub/afero/inner/os.EBADFD", laid_pub_marram_pub_afero_inner_os_EBADFD), ("io.EOF", laid_io_EOF), ("io.ErrUnexpectedEOF", laid_io_ErrUnexpectedEOF), ("pub-marram/pub/afero/mem.ErrFileClosed", laid_pub_marram_pub_afero_mem_ErrFileClosed), ("pub-marram/pub/afero/mem.ErrOutOfRange", laid_pub_marram_pub_afero_mem_ErrOutOfRange)] }
def FnSeekByEndsSaid : Prop := fnSeekByEndsRow.holds Tryd.pinned (OpenSpec.ofChange fnSeekByEndsSpec)

/-- ITS FALSE NEIGHBOUR: 'it returns false'. Refute it at one input. -/
def fnSeekByEndsWrong : ChangeSpec := { name := "fnSeekByEnds", fn := fun _ => fun
  | [d1, d2, d3] => { results := [.lit (.bool false)], args := [d1, d2, d3] }
  | _ => none }
def FnSeekByEndsWrongFalsely : Prop := fnSeekByEndsRow.holds Tryd.pinned (OpenSpec.ofChange fnSeekByEndsWrong)

/-- 'laws.FnTruncateCuts': WHATEVER THE INPUT: true; the input reads as it did. -/
def fnTruncateCutsSpec : ChangeSpec := { name := "fnTruncateCuts", fn := fun _ => fun
  | [d1, d2, d3, d4] => { results := [.lit (.bool true)], args := [d1, d2, d3, d4] }
  | _ => none }
def fnTruncateCutsRow : OpenClaim := { program := "ytnkhfdnahnphdaadoor", sum := "37ee54857b0d095a0098eb187cd6fe1795f8e2f718f4bf741f138cb481bd6767", func := "pub-marram/laws.FnTruncateCuts", spec := "fnTruncateCuts", named := ["pub-marram/pub/afero/mem.ErrFileClosed", "io.EOF", "io.ErrUnexpectedEOF", "pub-marram/pub/afero/mem.ErrOutOfRange", "pub-marram/pub/afero/inner/os.ErrNotExist", "pub-marram/pub/afero/inner/os.ErrExist", "pub-marram/pub/afero/inner/os.ENOTDIR", "pub-marram/pub/afero/inner/os.ENOENT", "pub-marram/pub/afero/inner/os.EPERM", "pub-marram/pub/afero/inner/os.EBADFD", "pub-marram/pub/afero/inner/os.EIO"], apart := false, laid := [("pub-marram/pub/afero/inner/os.ErrExist", laid_pub_marram_pub_afero_inner_os_ErrExist), ("pub-marram/pub/afero/inner/os.ErrNotExist", laid_pub_marram_pub_afero_inner_os_ErrNotExist), ("pub-marram/pub/afero/inner/os.ENOENT", laid_pub_marram_pub_afero_inner_os_ENOENT), ("pub-marram/pub/afero/inner/os.ENOTDIR", laid_pub_marram_pub_afero_inner_os_ENOTDIR), ("pub-marram/pub/afero/inner/os.EPERM", laid_pub_marram_pub_afero_inner_os_EPERM), ("pub-marram/pub/afero/inner/os.EIO", laid_pub_marram_pub_afero_inner_os_EIO), ("pub-marram/pub/afero/inner/os.EBADFD", laid_pub_marram_pub_afero_inner_os_EBADFD), ("io.EOF", laid_io_EOF), ("io.ErrUnexpectedEOF", laid_io_ErrUnexpectedEOF), ("pub-marram/pub/afero/mem.ErrFileClosed", laid_pub_marram_pub_afero_mem_ErrFileClosed), ("pub-marram/pub/afero/mem.ErrOutOfRange", laid_pub_marram_pub_afero_mem_ErrOutOfRange)] }
def FnTruncateCutsSaid : Prop := fnTruncateCutsRow.holds Tryd.pinned (OpenSpec.ofChange fnTruncateCutsSpec)

/-- ITS FALSE NEIGHBOUR: 'it returns false'. Refute it at one input. -/
def fnTruncateCutsWrong : ChangeSpec := { name := "fnTruncateCuts", fn := fun _ => fun
  | [d1, d2, d3, d4] => { results := [.lit (.bool false)], args := [d1, d2, d3, d4] }
  | _ => none }
def FnTruncateCutsWrongFalsely : Prop := fnTruncateCutsRow.holds Tryd.pinned (OpenSpec.ofChange fnTruncateCutsWrong)

/-- 'laws.FnWritesApart': WHATEVER THE INPUT: true; the input reads as it did. -/
def fnWritesApartSpec : ChangeSpec := { name := "fnWritesApart", fn := fun _ => fun
  | [d1, d2, d3, d4, d5] => { results := [.lit (.bool true)], args := [d1, d2, d3, d4, d5] }
  | _ => none }
def fnWritesApartRow : OpenClaim := { program := "ytnkhfdnahnphdaadoor", sum := "37ee54857b0d095a0098eb187cd6fe1795f8e2f718f4bf741f138cb481bd6767", func := "pub-marram/laws.FnWritesApart", spec := "fnWritesApart", named := ["pub-marram/pub/afero/mem.ErrFileClosed", "io.EOF", "io.ErrUnexpectedEOF", "pub-marram/pub/afero/mem.ErrOutOfRange", "pub-marram/pub/afero/inner/os.ErrNotExist", "pub-marram/pub/afero/inner/os.ErrExist", "pub-marram/pub/afero/inner/os.ENOTDIR", "pub-marram/pub/afero/inner/os.ENOENT", "pub-marram/pub/afero/inner/os.EPERM", "pub-marram/pub/afero/inner/os.EBADFD", "pub-marram/pub/afero/inner/os.EIO"], apart := false, laid := [("pub-marram/pub/afero/inner/os.ErrExist", laid_pub_marram_pub_afero_inner_os_ErrExist), ("pub-marram/pub/afero/inner/os.ErrNotExist", laid_pub_marram_pub_afero_inner_os_ErrNotExist), ("pub-marram/pub/afero/inner/os.ENOENT", laid_pub_marram_pub_afero_inner_os_ENOENT), ("pub-marram/pub/afero/inner/os.ENOTDIR", laid_pub_marram_pub_afero_inner_os_ENOTDIR), ("pub-marram/pub/afero/inner/os.EPERM", laid_pub_marram_pub_afero_inner_os_EPERM), ("pub-marram/pub/afero/inner/os.EIO", laid_pub_marram_pub_afero_inner_os_EIO), ("pub-marram/pub/afero/inner/os.EBADFD", laid_pub_marram_pub_afero_inner_os_EBADFD), ("io.EOF", laid_io_EOF), ("io.ErrUnexpectedEOF", laid_io_ErrUnexpectedEOF), ("pub-marram/pub/afero/mem.ErrFileClosed", laid_pub_marram_pub_afero_mem_ErrFileClosed), ("pub-marram/pub/afero/mem.ErrOutOfRange", laid_pub_marram_pub_afero_mem_ErrOutOfRange)] }
def FnWritesApartSaid : Prop := fnWritesApartRow.holds Tryd.pinned (OpenSpec.ofChange fnWritesApartSpec)

/-- ITS FALSE NEIGHBOUR: 'it returns false'. Refute it at one input. -/
def fnWritesApartWrong : ChangeSpec := { name := "fnWritesApart", fn := fun _ => fun
  | [d1, d2, d3, d4, d5] => { results := [.lit (.bool false)], args := [d1, d2, d3, d4, d5] }
  | _ => none }
def FnWritesApartWrongFalsely : Prop := fnWritesApartRow.holds Tryd.pinned (OpenSpec.ofChange fnWritesApartWrong)

/-- 'laws.FnUnionReadOnly': WHATEVER THE INPUT: true; the input reads as it did. -/
def fnUnionReadOnlySpec : ChangeSpec := { name := "fnUnionReadOnly", fn := fun _ => fun
  | [d1, d2, d3] => { results := [.lit (.bool true)], args := [d1, d2, d3] }
  | _ => none }
def fnUnionReadOnlyRow : OpenClaim := { program := "ytnkhfdnahnphdaadoor", sum := "37ee54857b0d095a0098eb187cd6fe1795f8e2f718f4bf741f138cb481bd6767", func := "pub-marram/laws.FnUnionReadOnly", spec := "fnUnionReadOnly", recurses := true, named := ["io.EOF", "pub-marram/pub/afero/inner/os.EBADFD", "pub-marram/pub/afero/mem.ErrFileClosed", "io.ErrUnexpectedEOF", "pub-marram/pub/afero/mem.ErrOutOfRange", "pub-marram/pub/afero/inner/os.ErrNotExist", "pub-marram/pub/afero/inner/os.ErrExist", "pub-marram/pub/afero/inner/os.ENOTDIR", "pub-marram/pub/afero/inner/os.ENOENT", "pub-marram/pub/afero/inner/os.EPERM", "pub-marram/pub/afero/inner/os.EIO"], apart := false, laid := [("pub-marram/pub/afero/inner/os.ErrExist", laid_pub_marram_pub_afero_inner_os_ErrExist), ("pub-marram/pub/afero/inner/os.ErrNotExist", laid_pub_marram_pub_afero_inner_os_ErrNotExist), ("pub-marram/pub/afero/inner/os.ENOENT", laid_pub_marram_pub_afero_inner_os_ENOENT), ("pub-marram/pub/afero/inner/os.ENOTDIR", laid_pub_marram_pub_afero_inner_os_ENOTDIR), ("pub-marram/pub/afero/inner/os.EPERM", laid_pub_marram_pub_afero_inner_os_EPERM), ("pub-marram/pub/afero/inner/os.EIO", laid_pub_marram_pub_afero_inner_os_EIO), ("pub-marram/pub/afero/inner/os.EBADFD", laid_pub_marram_pub_afero_inner_os_EBADFD), ("io.EOF", laid_io_EOF), ("io.ErrUnexpectedEOF", laid_io_ErrUnexpectedEOF), ("pub-marram/pub/afero/mem.ErrFileClosed", laid_pub_marram_pub_afero_mem_ErrFileClosed), ("pub-marram/pub/afero/mem.ErrOutOfRange", laid_pub_marram_pub_afero_mem_ErrOutOfRange)] }
def FnUnionReadOnlySaid : Prop := fnUnionReadOnlyRow.holds Tryd.pinned (OpenSpec.ofChange fnUnionReadOnlySpec)

/-- ITS FALSE NEIGHBOUR: 'it returns false'. Refute it at one input. -/
def fnUnionReadOnlyWrong : ChangeSpec := { name := "fnUnionReadOnly", fn := fun _ => fun
  | [d1, d2, d3] => { results := [.lit (.bool false)], args := [d1, d2, d3] }
  | _ => none }
def FnUnionReadOnlyWrongFalsely : Prop := fnUnionReadOnlyRow.holds Tryd.pinned (OpenSpec.ofChange fnUnionReadOnlyWrong)

/-- 'laws.FnUnionReadsLayer': WHATEVER THE INPUT: true; the input reads as it did. -/
def fnUnionReadsLayerSpec : ChangeSpec := { name := "fnUnionReadsLayer", fn := fun _ => fun
  | [d1, d2, d3, d4] => { results := [.lit (.bool true)], args := [d1, d2, d3, d4] }
  | _ => none }
def fnUnionReadsLayerRow : OpenClaim := { program := "ytnkhfdnahnphdaadoor", sum := "37ee54857b0d095a0098eb187cd6fe1795f8e2f718f4bf741f138cb481bd6767", func := "pub-marram/laws.FnUnionReadsLayer", spec := "fnUnionReadsLayer", recurses := true, named := ["io.EOF", "pub-marram/pub/afero/inner/os.EBADFD", "pub-marram/pub/afero/mem.ErrFileClosed", "io.ErrUnexpectedEOF", "pub-marram/pub/afero/mem.ErrOutOfRange", "pub-marram/pub/afero/inner/os.ErrNotExist", "pub-marram/pub/afero/inner/os.ErrExist", "pub-marram/pub/afero/inner/os.ENOTDIR", "pub-marram/pub/afero/inner/os.ENOENT", "pub-marram/pub/afero/inner/os.EPERM", "pub-marram/pub/afero/inner/os.EIO"], apart := false, laid := [("pub-marram/pub/afero/inner/os.ErrExist", laid_pub_marram_pub_afero_inner_os_ErrExist), ("pub-marram/pub/afero/inner/os.ErrNotExist", laid_pub_marram_pub_afero_inner_os_ErrNotExist), ("pub-marram/pub/afero/inner/os.ENOENT", laid_pub_marram_pub_afero_inner_os_ENOENT), ("pub-marram/pub/afero/inner/os.ENOTDIR", laid_pub_marram_pub_afero_inner_os_ENOTDIR), ("pub-marram/pub/afero/inner/os.EPERM", laid_pub_marram_pub_afero_inner_os_EPERM), ("pub-marram/pub/afero/inner/os.EIO", laid_pub_marram_pub_afero_inner_os_EIO), ("pub-marram/pub/afero/inner/os.EBADFD", laid_pub_marram_pub_afero_inner_os_EBADFD), ("io.EOF", laid_io_EOF), ("io.ErrUnexpectedEOF", laid_io_ErrUnexpectedEOF), ("pub-marram/pub/afero/mem.ErrFileClosed", laid_pub_marram_pub_afero_mem_ErrFileClosed), ("pub-marram/pub/afero/mem.ErrOutOfRange", laid_pub_marram_pub_afero_mem_ErrOutOfRange)] }
def FnUnionReadsLayerSaid : Prop := fnUnionReadsLayerRow.holds Tryd.pinned (OpenSpec.ofChange fnUnionReadsLayerSpec)

/-- ITS FALSE NEIGHBOUR: 'it returns false'. Refute it at one input. -/
def fnUnionReadsLayerWrong : ChangeSpec := { name := "fnUnionReadsLayer", fn := fun _ => fun
  | [d1, d2, d3, d4] => { results := [.lit (.bool false)], args := [d1, d2, d3, d4] }
  | _ => none }
def FnUnionReadsLayerWrongFalsely : Prop := fnUnionReadsLayerRow.holds Tryd.pinned (OpenSpec.ofChange fnUnionReadsLayerWrong)

/- THE SECOND FORM. 'bulk': how many values and letters a reading holds, each counted each time it is reached (what is shared counts as often as it is met; a slice's spare places count too). A statement '..UptoSaid' is the law's where the arguments, and the package variables that the reading takes, are together of bulk at most 1048576: NARROWER than '..Said'. Prove '..Said' where nothing that the law and all that it calls make is longer than what came in: it says more and counts as full. Else prove '..UptoSaid'. A law counts once. -/
mutual
def uptoBulk {H : Type} : DataW H → Nat
  | .lit (.string bytes) => bytes.length + 1
  | .lit _ => 1
  | .nil => 1
  | .ptr d => uptoBulk d + 1
  | .slice elems spare => uptoBulkAll elems + uptoBulkAll spare + 1
  | .agg parts => uptoBulkAll parts + 1
  | .iface _ d => uptoBulk d + 1
  | .map entries => uptoBulkEntries entries + 1
  | .held _ => 1
def uptoBulkAll {H : Type} : List (DataW H) → Nat
  | [] => 0
  | d :: r => uptoBulk d + uptoBulkAll r
def uptoBulkEntries {H : Type} : List (Lit × DataW H) → Nat
  | [] => 0
  | x :: r => uptoBulkEntry x + uptoBulkEntries r
def uptoBulkEntry {H : Type} : Lit × DataW H → Nat
  | (.string bytes, d) => bytes.length + uptoBulk d + 1
  | (_, d) => uptoBulk d + 1
 end
def uptoSmall : (H : Type) → List (DataW H) → Bool := fun _ ds => decide (uptoBulkAll ds ≤ 1048576)
def OpenSpec.upto (s : _root_.Go.ChangeSpec) : _root_.Go.OpenSpec := { _root_.Go.OpenSpec.ofChange s with cond := some uptoSmall }

/-- 'laws.FnHandlePlaces', WHERE WHAT IT READS IS OF BULK AT MOST 1048576: true; the input reads as it did. -/
def fnHandlePlacesUptoRow : OpenClaim := { program := "ytnkhfdnahnphdaadoor", sum := "37ee54857b0d095a0098eb187cd6fe1795f8e2f718f4bf741f138cb481bd6767", func := "pub-marram/laws.FnHandlePlaces", spec := "fnHandlePlaces", named := ["pub-marram/pub/afero/mem.ErrFileClosed", "io.EOF", "io.ErrUnexpectedEOF", "pub-marram/pub/afero/mem.ErrOutOfRange", "pub-marram/pub/afero/inner/os.ErrNotExist", "pub-marram/pub/afero/inner/os.ErrExist", "pub-marram/pub/afero/inner/os.ENOTDIR", "pub-marram/pub/afero/inner/os.ENOENT", "pub-marram/pub/afero/inner/os.EPERM", "pub-marram/pub/afero/inner/os.EBADFD", "pub-marram/pub/afero/inner/os.EIO"], apart := false, laid := [("pub-marram/pub/afero/inner/os.ErrExist", laid_pub_marram_pub_afero_inner_os_ErrExist), ("pub-marram/pub/afero/inner/os.ErrNotExist", laid_pub_marram_pub_afero_inner_os_ErrNotExist), ("pub-marram/pub/afero/inner/os.ENOENT", laid_pub_marram_pub_afero_inner_os_ENOENT), ("pub-marram/pub/afero/inner/os.ENOTDIR", laid_pub_marram_pub_afero_inner_os_ENOTDIR), ("pub-marram/pub/afero/inner/os.EPERM", laid_pub_marram_pub_afero_inner_os_EPERM), ("pub-marram/pub/afero/inner/os.EIO", laid_pub_marram_pub_afero_inner_os_EIO), ("pub-marram/pub/afero/inner/os.EBADFD", laid_pub_marram_pub_afero_inner_os_EBADFD), ("io.EOF", laid_io_EOF), ("io.ErrUnexpectedEOF", laid_io_ErrUnexpectedEOF), ("pub-marram/pub/afero/mem.ErrFileClosed", laid_pub_marram_pub_afero_mem_ErrFileClosed), ("pub-marram/pub/afero/mem.ErrOutOfRange", laid_pub_marram_pub_afero_mem_ErrOutOfRange)], narrowed := true }
def FnHandlePlacesUptoSaid : Prop := fnHandlePlacesUptoRow.holds Tryd.pinned (OpenSpec.upto fnHandlePlacesSpec)

/-- 'laws.FnSeekByEnds', WHERE WHAT IT READS IS OF BULK AT MOST 1048576: true; the input reads as it did. -/
def fnSeekByEndsUptoRow : OpenClaim := { program := "ytnkhfdnahnphdaadoor", sum := "37ee54857b0d095a0098eb187cd6fe1795f8e2f718f4bf741f138cb481bd6767", func := "pub-marram/laws.FnSeekByEnds", spec := "fnSeekByEnds", unfollowed := true, recurses := true, named := ["pub-marram/pub/afero/mem.ErrFileClosed", "io.EOF", "io.ErrUnexpectedEOF", "pub-marram/pub/afero/mem.ErrOutOfRange", "pub-marram/pub/afero/inner/os.ErrNotExist", "pub-marram/pub/afero/inner/os.ErrExist", "pub-marram/pub/afero/inner/os.ENOTDIR", "pub-marram/pub/afero/inner/os.ENOENT", "pub-marram/pub/afero/inner/os.EPERM", "pub-marram/pub/afero/inner/os.EBADFD", "pub-marram/pub/afero/inner/os.EIO"], apart := false, laid := [("pub-marram/pub/afero/inner/os.ErrExist", laid_pub_marram_pub_afero_inner_os_ErrExist), ("pub-marram/pub/afero/inner/os.ErrNotExist", laid_pub_marram_pub_afero_inner_os_ErrNotExist), ("pub-marram/pub/afero/inner/os.ENOENT", laid_pub_marram_pub_afero_inner_os_ENOENT), ("pub-marram/pub/afero/inner/os.ENOTDIR", laid_pub_marram_pub_afero_inner_os_ENOTDIR), ("pub-marram/pub/afero/inner/os.EPERM", laid_pub_marram_pub_afero_inner_os_EPERM), ("pub-marram/pub/afero/inner/os.EIO", laid_pub_marram_pub_afero_inner_os_EIO), ("pub-marram/pub/afero/inner/os.EBADFD", laid_pub_marram_pub_afero_inner_os_EBADFD), ("io.EOF", laid_io_EOF), ("io.ErrUnexpectedEOF", laid_io_ErrUnexpectedEOF), ("pub-marram/pub/afero/mem.ErrFileClosed", laid_pub_marram_pub_afero_mem_ErrFileClosed), ("pub-marram/pub/afero/mem.ErrOutOfRange", laid_pub_marram_pub_afero_mem_ErrOutOfRange)], narrowed := true }
def FnSeekByEndsUptoSaid : Prop := fnSeekByEndsUptoRow.holds Tryd.pinned (OpenSpec.upto fnSeekByEndsSpec)

/-- 'laws.FnTruncateCuts', WHERE WHAT IT READS IS OF BULK AT MOST 1048576: true; the input reads as it did. -/
def fnTruncateCutsUptoRow : OpenClaim := { program := "ytnkhfdnahnphdaadoor", sum := "37ee54857b0d095a0098eb187cd6fe1795f8e2f718f4bf741f138cb481bd6767", func := "pub-marram/laws.FnTruncateCuts", spec := "fnTruncateCuts", named := ["pub-marram/pub/afero/mem.ErrFileClosed", "io.EOF", "io.ErrUnexpectedEOF", "pub-marram/pub/afero/mem.ErrOutOfRange", "pub-marram/pub/afero/inner/os.ErrNotExist", "pub-marram/pub/afero/inner/os.ErrExist", "pub-marram/pub/afero/inner/os.ENOTDIR", "pub-marram/pub/afero/inner/os.ENOENT", "pub-marram/pub/afero/inner/os.EPERM", "pub-marram/pub/afero/inner/os.EBADFD", "pub-marram/pub/afero/inner/os.EIO"], apart := false, laid := [("pub-marram/pub/afero/inner/os.ErrExist", laid_pub_marram_pub_afero_inner_os_ErrExist), ("pub-marram/pub/afero/inner/os.ErrNotExist", laid_pub_marram_pub_afero_inner_os_ErrNotExist), ("pub-marram/pub/afero/inner/os.ENOENT", laid_pub_marram_pub_afero_inner_os_ENOENT), ("pub-marram/pub/afero/inner/os.ENOTDIR", laid_pub_marram_pub_afero_inner_os_ENOTDIR), ("pub-marram/pub/afero/inner/os.EPERM", laid_pub_marram_pub_afero_inner_os_EPERM), ("pub-marram/pub/afero/inner/os.EIO", laid_pub_marram_pub_afero_inner_os_EIO), ("pub-marram/pub/afero/inner/os.EBADFD", laid_pub_marram_pub_afero_inner_os_EBADFD), ("io.EOF", laid_io_EOF), ("io.ErrUnexpectedEOF", laid_io_ErrUnexpectedEOF), ("pub-marram/pub/afero/mem.ErrFileClosed", laid_pub_marram_pub_afero_mem_ErrFileClosed), ("pub-marram/pub/afero/mem.ErrOutOfRange", laid_pub_marram_pub_afero_mem_ErrOutOfRange)], narrowed := true }
def FnTruncateCutsUptoSaid : Prop := fnTruncateCutsUptoRow.holds Tryd.pinned (OpenSpec.upto fnTruncateCutsSpec)

/-- 'laws.FnWritesApart', WHERE WHAT IT READS IS OF BULK AT MOST 1048576: true; the input reads as it did. -/
def fnWritesApartUptoRow : OpenClaim := { program := "ytnkhfdnahnphdaadoor", sum := "37ee54857b0d095a0098eb187cd6fe1795f8e2f718f4bf741f138cb481bd6767", func := "pub-marram/laws.FnWritesApart", spec := "fnWritesApart", named := ["pub-marram/pub/afero/mem.ErrFileClosed", "io.EOF", "io.ErrUnexpectedEOF", "pub-marram/pub/afero/mem.ErrOutOfRange", "pub-marram/pub/afero/inner/os.ErrNotExist", "pub-marram/pub/afero/inner/os.ErrExist", "pub-marram/pub/afero/inner/os.ENOTDIR", "pub-marram/pub/afero/inner/os.ENOENT", "pub-marram/pub/afero/inner/os.EPERM", "pub-marram/pub/afero/inner/os.EBADFD", "pub-marram/pub/afero/inner/os.EIO"], apart := false, laid := [("pub-marram/pub/afero/inner/os.ErrExist", laid_pub_marram_pub_afero_inner_os_ErrExist), ("pub-marram/pub/afero/inner/os.ErrNotExist", laid_pub_marram_pub_afero_inner_os_ErrNotExist), ("pub-marram/pub/afero/inner/os.ENOENT", laid_pub_marram_pub_afero_inner_os_ENOENT), ("pub-marram/pub/afero/inner/os.ENOTDIR", laid_pub_marram_pub_afero_inner_os_ENOTDIR), ("pub-marram/pub/afero/inner/os.EPERM", laid_pub_marram_pub_afero_inner_os_EPERM), ("pub-marram/pub/afero/inner/os.EIO", laid_pub_marram_pub_afero_inner_os_EIO), ("pub-marram/pub/afero/inner/os.EBADFD", laid_pub_marram_pub_afero_inner_os_EBADFD), ("io.EOF", laid_io_EOF), ("io.ErrUnexpectedEOF", laid_io_ErrUnexpectedEOF), ("pub-marram/pub/afero/mem.ErrFileClosed", laid_pub_marram_pub_afero_mem_ErrFileClosed), ("pub-marram/pub/afero/mem.ErrOutOfRange", laid_pub_marram_pub_afero_mem_ErrOutOfRange)], narrowed := true }
def FnWritesApartUptoSaid : Prop := fnWritesApartUptoRow.holds Tryd.pinned (OpenSpec.upto fnWritesApartSpec)

/-- 'laws.FnUnionReadOnly', WHERE WHAT IT READS IS OF BULK AT MOST 1048576: true; the input reads as it did. -/
def fnUnionReadOnlyUptoRow : OpenClaim := { program := "ytnkhfdnahnphdaadoor", sum := "37ee54857b0d095a0098eb187cd6fe1795f8e2f718f4bf741f138cb481bd6767", func := "pub-marram/laws.FnUnionReadOnly", spec := "fnUnionReadOnly", recurses := true, named := ["io.EOF", "pub-marram/pub/afero/inner/os.EBADFD", "pub-marram/pub/afero/mem.ErrFileClosed", "io.ErrUnexpectedEOF", "pub-marram/pub/afero/mem.ErrOutOfRange", "pub-marram/pub/afero/inner/os.ErrNotExist", "pub-marram/pub/afero/inner/os.ErrExist", "pub-marram/pub/afero/inner/os.ENOTDIR", "pub-marram/pub/afero/inner/os.ENOENT", "pub-marram/pub/afero/inner/os.EPERM", "pub-marram/pub/afero/inner/os.EIO"], apart := false, laid := [("pub-marram/pub/afero/inner/os.ErrExist", laid_pub_marram_pub_afero_inner_os_ErrExist), ("pub-marram/pub/afero/inner/os.ErrNotExist", laid_pub_marram_pub_afero_inner_os_ErrNotExist), ("pub-marram/pub/afero/inner/os.ENOENT", laid_pub_marram_pub_afero_inner_os_ENOENT), ("pub-marram/pub/afero/inner/os.ENOTDIR", laid_pub_marram_pub_afero_inner_os_ENOTDIR), ("pub-marram/pub/afero/inner/os.EPERM", laid_pub_marram_pub_afero_inner_os_EPERM), ("pub-marram/pub/afero/inner/os.EIO", laid_pub_marram_pub_afero_inner_os_EIO), ("pub-marram/pub/afero/inner/os.EBADFD", laid_pub_marram_pub_afero_inner_os_EBADFD), ("io.EOF", laid_io_EOF), ("io.ErrUnexpectedEOF", laid_io_ErrUnexpectedEOF), ("pub-marram/pub/afero/mem.ErrFileClosed", laid_pub_marram_pub_afero_mem_ErrFileClosed), ("pub-marram/pub/afero/mem.ErrOutOfRange", laid_pub_marram_pub_afero_mem_ErrOutOfRange)], narrowed := true }
def FnUnionReadOnlyUptoSaid : Prop := fnUnionReadOnlyUptoRow.holds Tryd.pinned (OpenSpec.upto fnUnionReadOnlySpec)

/-- 'laws.FnUnionReadsLayer', WHERE WHAT IT READS IS OF BULK AT MOST 1048576: true; the input reads as it did. -/
def fnUnionReadsLayerUptoRow : OpenClaim := { program := "ytnkhfdnahnphdaadoor", sum := "37ee54857b0d095a0098eb187cd6fe1795f8e2f718f4bf741f138cb481bd6767", func := "pub-marram/laws.FnUnionReadsLayer", spec := "fnUnionReadsLayer", recurses := true, named := ["io.EOF", "pub-marram/pub/afero/inner/os.EBADFD", "pub-marram/pub/afero/mem.ErrFileClosed", "io.ErrUnexpectedEOF", "pub-marram/pub/afero/mem.ErrOutOfRange", "pub-marram/pub/afero/inner/os.ErrNotExist", "pub-marram/pub/afero/inner/os.ErrExist", "pub-marram/pub/afero/inner/os.ENOTDIR", "pub-marram/pub/afero/inner/os.ENOENT", "pub-marram/pub/afero/inner/os.EPERM", "pub-marram/pub/afero/inner/os.EIO"], apart := false, laid := [("pub-marram/pub/afero/inner/os.ErrExist", laid_pub_marram_pub_afero_inner_os_ErrExist), ("pub-marram/pub/afero/inner/os.ErrNotExist", laid_pub_marram_pub_afero_inner_os_ErrNotExist), ("pub-marram/pub/afero/inner/os.ENOENT", laid_pub_marram_pub_afero_inner_os_ENOENT), ("pub-marram/pub/afero/inner/os.ENOTDIR", laid_pub_marram_pub_afero_inner_os_ENOTDIR), ("pub-marram/pub/afero/inner/os.EPERM", laid_pub_marram_pub_afero_inner_os_EPERM), ("pub-marram/pub/afero/inner/os.EIO", laid_pub_marram_pub_afero_inner_os_EIO), ("pub-marram/pub/afero/inner/os.EBADFD", laid_pub_marram_pub_afero_inner_os_EBADFD), ("io.EOF", laid_io_EOF), ("io.ErrUnexpectedEOF", laid_io_ErrUnexpectedEOF), ("pub-marram/pub/afero/mem.ErrFileClosed", laid_pub_marram_pub_afero_mem_ErrFileClosed), ("pub-marram/pub/afero/mem.ErrOutOfRange", laid_pub_marram_pub_afero_mem_ErrOutOfRange)], narrowed := true }
def FnUnionReadsLayerUptoSaid : Prop := fnUnionReadsLayerUptoRow.holds Tryd.pinned (OpenSpec.upto fnUnionReadsLayerSpec)

end Rows
end Go.Proofs.YtnkhfdnahnphdaaDoor
