/-
  NARROWER THAN 'FOR EVERY INPUT', by the rows' own cells (each row's printed sentence says how): FnContainsIn: laid · FnRealPath: laid · FnRealPathForms: laid · FnVerityBack: laid.
  DERIVED. THE GIVEN ROWS OF THIS SEAT. 4 by the template 'for every input the law returns true; each argument reads behind the call as it read before'; 0 by the template 'total and deterministic' (their statements: YtfanlhkpblemgaaDoorTotals.lean).
  GIVEN WITH THE SEED: the statements are not yours to turn. If you find one false, say at which input.
  Laid BY PROGRAM, IN A SANDBOX (cutbox-rows.mjs): the forced cells as the released guide's own fill.sh prints them over the translation f9d26004bfe22a49… (all of the seat's roots in one cut). By AI agents, Wed Nov 11 2026. No macro, syntax, notation, axiom, sorry.
-/
import Derived.Test.YtfanlhkpblemgaaDoorChecked
import GoSem.Claim
import GoSem.ClaimJoined
import GoSem.ClaimMapViews
import Derived.JoinedTies
import Derived.KernelRfl
namespace Go.Proofs.YtfanlhkpblemgaaDoor
/- THE CELL 'sum', in the pinned program and in every row, IS THE sha256 OF THE DUMP (.gsa) THAT YtfanlhkpblemgaaDoorProg.lean LOADS. Nothing in Lean hashes anything: it is a label: what it is worth is what the hold of that sum in a sandbox is worth. -/
noncomputable def Tryd.pinned : Pinned := { name := "ytfanlhkpblemgaadoor", sum := "f9d26004bfe22a492e7244897f17098c45cab02bbc1c2d674f516ca522b15879", checked := Tryd.checked }
namespace Rows
def none {H : Type} : Left H := { results := [], args := [] }

/- WHAT THE LISTED PACKAGE-LEVEL VARIABLES READ AS WHEN THE CALL BEGINS. Each datum BY PROGRAM (the guide's laid-datum.mjs) off the statement by which the dump's own 'gosem.cut.vars' lays the variable. In a bare row this is a premise. The card (YtfanlhkpblemgaaDoorCards.lean) ties it to the program's text. -/
def laid_io_EOF {H : Type} : DataW H := .iface "*errors.errorString" (.ptr (.agg [.lit (.string [69, 79, 70])]))
def laid_io_ErrUnexpectedEOF {H : Type} : DataW H := .iface "*errors.errorString" (.ptr (.agg [.lit (.string [117, 110, 101, 120, 112, 101, 99, 116, 101, 100, 32, 69, 79, 70])]))
def laid_pub_marram_pub_afero_mem_ErrFileClosed {H : Type} : DataW H := .iface "*errors.errorString" (.ptr (.agg [.lit (.string [70, 105, 108, 101, 32, 105, 115, 32, 99, 108, 111, 115, 101, 100])]))
def laid_pub_marram_pub_afero_inner_os_ErrExist {H : Type} : DataW H := .iface "*errors.errorString" (.ptr (.agg [.lit (.string [102, 105, 108, 101, 32, 97, 108, 114, 101, 97, 100, 121, 32, 101, 120, 105, 115, 116, 115])]))
def laid_pub_marram_pub_afero_inner_os_ErrNotExist {H : Type} : DataW H := .iface "*errors.errorString" (.ptr (.agg [.lit (.string [102, 105, 108, 101, 32, 100, 111, 101, 115, 32, 110, 111, 116, 32, 101, 120, 105, 115, 116])]))
def laid_pub_marram_pub_afero_inner_os_ENOENT {H : Type} : DataW H := .iface "*errors.errorString" (.ptr (.agg [.lit (.string [110, 111, 32, 115, 117, 99, 104, 32, 102, 105, 108, 101, 32, 111, 114, 32, 100, 105, 114, 101, 99, 116, 111, 114, 121])]))
def laid_pub_marram_pub_afero_inner_os_ENOTDIR {H : Type} : DataW H := .iface "*errors.errorString" (.ptr (.agg [.lit (.string [110, 111, 116, 32, 97, 32, 100, 105, 114, 101, 99, 116, 111, 114, 121])]))
def laid_pub_marram_pub_afero_inner_os_EPERM {H : Type} : DataW H := .iface "*errors.errorString" (.ptr (.agg [.lit (.string [111, 112, 101, 114, 97, 116, 105, 111, 110, 32, 110, 111, 116, 32, 112, 101, 114, 109, 105, 116, 116, 101, 100])]))
def laid_pub_marram_pub_afero_inner_os_EIO {H : Type} : DataW H := .iface "*errors.errorString" (.ptr (.agg [.lit (.string [105, 110, 112, 117, 116, 47, 111, 117, 116, 112, 117, 116, 32, 101, 114, 114, 111, 114])]))
def laid_pub_marram_pub_afero_inner_os_EBADFD {H : Type} : DataW H := .iface "*errors.errorString" (.ptr (.agg [.lit (.string [102, 105, 108, 101, 32, 100, 101, 115, 99, 114, 105, 112, 116, 111, 114, 32, 105, 110, 32, 98, 97, 100, 32, 115, 116, 97, 116, 101])]))
def laid_pub_marram_pub_afero_mem_ErrOutOfRange {H : Type} : DataW H := .iface "*errors.errorString" (.ptr (.agg [.lit (.string [111, 117, 116, 32, 111, 102, 32, 114, 97, 110, 103, 101])]))
def laid_pub_marram_pub_hcsshim_ext4_dmverity_ErrSuperBlockReadFailure {H : Type} : DataW H := .iface "*errors.errorString" (.ptr (.agg [.lit (.string [102, 97, 105, 108, 101, 100, 32, 116, 111, 32, 114, 101, 97, 100, 32, 100, 109, 45, 118, 101, 114, 105, 116, 121, 32, 115, 117, 112, 101, 114, 32, 98, 108, 111, 99, 107])]))
def laid_pub_marram_pub_hcsshim_ext4_dmverity_ErrSuperBlockParseFailure {H : Type} : DataW H := .iface "*errors.errorString" (.ptr (.agg [.lit (.string [102, 97, 105, 108, 101, 100, 32, 116, 111, 32, 112, 97, 114, 115, 101, 32, 100, 109, 45, 118, 101, 114, 105, 116, 121, 32, 115, 117, 112, 101, 114, 32, 98, 108, 111, 99, 107])]))
def laid_pub_marram_pub_hcsshim_ext4_dmverity_ErrRootHashReadFailure {H : Type} : DataW H := .iface "*errors.errorString" (.ptr (.agg [.lit (.string [102, 97, 105, 108, 101, 100, 32, 116, 111, 32, 114, 101, 97, 100, 32, 100, 109, 45, 118, 101, 114, 105, 116, 121, 32, 114, 111, 111, 116, 32, 104, 97, 115, 104])]))
def laid_pub_marram_pub_hcsshim_ext4_dmverity_ErrNotVeritySuperBlock {H : Type} : DataW H := .iface "*errors.errorString" (.ptr (.agg [.lit (.string [105, 110, 118, 97, 108, 105, 100, 32, 100, 109, 45, 118, 101, 114, 105, 116, 121, 32, 115, 117, 112, 101, 114, 45, 98, 108, 111, 99, 107, 32, 115, 105, 103, 110, 97, 116, 117, 114, 101])]))

/-- 'laws.FnContainsIn': WHATEVER THE INPUT: true; the input reads as it did. -/
def fnContainsInSpec : ChangeSpec := { name := "fnContainsIn", fn := fun _ => fun
  | [d1, d2] => { results := [.lit (.bool true)], args := [d1, d2] }
  | _ => none }
def fnContainsInRow : OpenClaim := { program := "ytfanlhkpblemgaadoor", sum := "f9d26004bfe22a492e7244897f17098c45cab02bbc1c2d674f516ca522b15879", func := "pub-marram/laws.FnContainsIn", spec := "fnContainsIn", named := ["io.EOF", "io.ErrUnexpectedEOF", "pub-marram/pub/afero/mem.ErrFileClosed"], apart := false, laid := [("io.EOF", laid_io_EOF), ("io.ErrUnexpectedEOF", laid_io_ErrUnexpectedEOF), ("pub-marram/pub/afero/mem.ErrFileClosed", laid_pub_marram_pub_afero_mem_ErrFileClosed)] }
def FnContainsInSaid : Prop := fnContainsInRow.holds Tryd.pinned (OpenSpec.ofChange fnContainsInSpec)

/-- ITS FALSE NEIGHBOUR: 'it returns false'. Refute it at one input. -/
def fnContainsInWrong : ChangeSpec := { name := "fnContainsIn", fn := fun _ => fun
  | [d1, d2] => { results := [.lit (.bool false)], args := [d1, d2] }
  | _ => none }
def FnContainsInWrongFalsely : Prop := fnContainsInRow.holds Tryd.pinned (OpenSpec.ofChange fnContainsInWrong)

/-- 'laws.FnRealPath': WHATEVER THE INPUT: true; the input reads as it did. -/
def fnRealPathSpec : ChangeSpec := { name := "fnRealPath", fn := fun _ => fun
  | [d1, d2] => { results := [.lit (.bool true)], args := [d1, d2] }
  | _ => none }
def fnRealPathRow : OpenClaim := { program := "ytfanlhkpblemgaadoor", sum := "f9d26004bfe22a492e7244897f17098c45cab02bbc1c2d674f516ca522b15879", func := "pub-marram/laws.FnRealPath", spec := "fnRealPath", named := ["pub-marram/pub/afero/inner/os.ErrNotExist", "pub-marram/pub/afero/inner/os.ErrExist", "pub-marram/pub/afero/inner/os.ENOTDIR", "pub-marram/pub/afero/inner/os.ENOENT", "pub-marram/pub/afero/mem.ErrFileClosed", "io.EOF", "io.ErrUnexpectedEOF", "pub-marram/pub/afero/mem.ErrOutOfRange", "pub-marram/pub/afero/inner/os.EPERM", "pub-marram/pub/afero/inner/os.EBADFD", "pub-marram/pub/afero/inner/os.EIO"], apart := false, laid := [("pub-marram/pub/afero/inner/os.ErrExist", laid_pub_marram_pub_afero_inner_os_ErrExist), ("pub-marram/pub/afero/inner/os.ErrNotExist", laid_pub_marram_pub_afero_inner_os_ErrNotExist), ("pub-marram/pub/afero/inner/os.ENOENT", laid_pub_marram_pub_afero_inner_os_ENOENT), ("pub-marram/pub/afero/inner/os.ENOTDIR", laid_pub_marram_pub_afero_inner_os_ENOTDIR), ("pub-marram/pub/afero/inner/os.EPERM", laid_pub_marram_pub_afero_inner_os_EPERM), ("pub-marram/pub/afero/inner/os.EIO", laid_pub_marram_pub_afero_inner_os_EIO), ("pub-marram/pub/afero/inner/os.EBADFD", laid_pub_marram_pub_afero_inner_os_EBADFD), ("io.EOF", laid_io_EOF), ("io.ErrUnexpectedEOF", laid_io_ErrUnexpectedEOF), ("pub-marram/pub/afero/mem.ErrFileClosed", laid_pub_marram_pub_afero_mem_ErrFileClosed), ("pub-marram/pub/afero/mem.ErrOutOfRange", laid_pub_marram_pub_afero_mem_ErrOutOfRange)] }
def FnRealPathSaid : Prop := fnRealPathRow.holds Tryd.pinned (OpenSpec.ofChange fnRealPathSpec)

/-- ITS FALSE NEIGHBOUR: 'it returns false'. Refute it at one input. -/
def fnRealPathWrong : ChangeSpec := { name := "fnRealPath", fn := fun _ => fun
  | [d1, d2] => { results := [.lit (.bool false)], args := [d1, d2] }
  | _ => none }
def FnRealPathWrongFalsely : Prop := fnRealPathRow.holds Tryd.pinned (OpenSpec.ofChange fnRealPathWrong)

/-- 'laws.FnRealPathForms': WHATEVER THE INPUT: true; the input reads as it did. -/
def fnRealPathFormsSpec : ChangeSpec := { name := "fnRealPathForms", fn := fun _ => fun
  | [d1, d2] => { results := [.lit (.bool true)], args := [d1, d2] }
  | _ => none }
def fnRealPathFormsRow : OpenClaim := { program := "ytfanlhkpblemgaadoor", sum := "f9d26004bfe22a492e7244897f17098c45cab02bbc1c2d674f516ca522b15879", func := "pub-marram/laws.FnRealPathForms", spec := "fnRealPathForms", named := ["pub-marram/pub/afero/inner/os.ErrNotExist", "pub-marram/pub/afero/inner/os.ErrExist", "pub-marram/pub/afero/inner/os.ENOTDIR", "pub-marram/pub/afero/inner/os.ENOENT", "pub-marram/pub/afero/mem.ErrFileClosed", "io.EOF", "io.ErrUnexpectedEOF", "pub-marram/pub/afero/mem.ErrOutOfRange", "pub-marram/pub/afero/inner/os.EPERM", "pub-marram/pub/afero/inner/os.EBADFD", "pub-marram/pub/afero/inner/os.EIO"], apart := false, laid := [("pub-marram/pub/afero/inner/os.ErrExist", laid_pub_marram_pub_afero_inner_os_ErrExist), ("pub-marram/pub/afero/inner/os.ErrNotExist", laid_pub_marram_pub_afero_inner_os_ErrNotExist), ("pub-marram/pub/afero/inner/os.ENOENT", laid_pub_marram_pub_afero_inner_os_ENOENT), ("pub-marram/pub/afero/inner/os.ENOTDIR", laid_pub_marram_pub_afero_inner_os_ENOTDIR), ("pub-marram/pub/afero/inner/os.EPERM", laid_pub_marram_pub_afero_inner_os_EPERM), ("pub-marram/pub/afero/inner/os.EIO", laid_pub_marram_pub_afero_inner_os_EIO), ("pub-marram/pub/afero/inner/os.EBADFD", laid_pub_marram_pub_afero_inner_os_EBADFD), ("io.EOF", laid_io_EOF), ("io.ErrUnexpectedEOF", laid_io_ErrUnexpectedEOF), ("pub-marram/pub/afero/mem.ErrFileClosed", laid_pub_marram_pub_afero_mem_ErrFileClosed), ("pub-marram/pub/afero/mem.ErrOutOfRange", laid_pub_marram_pub_afero_mem_ErrOutOfRange)] }
def FnRealPathFormsSaid : Prop := fnRealPathFormsRow.holds Tryd.pinned (OpenSpec.ofChange fnRealPathFormsSpec)

/-- ITS FALSE NEIGHBOUR: 'it returns false'. Refute it at one input. -/
def fnRealPathFormsWrong : ChangeSpec := { name := "fnRealPathForms", fn := fun _ => fun
  | [d1, d2] => { results := [.lit (.bool false)], args := [d1, d2] }
  | _ => none }
def FnRealPathFormsWrongFalsely : Prop := fnRealPathFormsRow.holds Tryd.pinned (OpenSpec.ofChange fnRealPathFormsWrong)

/-- 'laws.FnVerityBack': WHATEVER THE INPUT: true; the input reads as it did. -/
def fnVerityBackSpec : ChangeSpec := { name := "fnVerityBack", fn := fun _ => fun
  | [d1, d2, d3] => { results := [.lit (.bool true)], args := [d1, d2, d3] }
  | _ => none }
def fnVerityBackRow : OpenClaim := { program := "ytfanlhkpblemgaadoor", sum := "f9d26004bfe22a492e7244897f17098c45cab02bbc1c2d674f516ca522b15879", func := "pub-marram/laws.FnVerityBack", spec := "fnVerityBack", unfollowed := true, recurses := true, named := ["pub-marram/pub/hcsshim/ext4/dmverity.ErrSuperBlockReadFailure", "pub-marram/pub/hcsshim/ext4/dmverity.ErrRootHashReadFailure", "pub-marram/pub/hcsshim/ext4/dmverity.ErrNotVeritySuperBlock", "pub-marram/pub/hcsshim/ext4/dmverity.ErrSuperBlockParseFailure"], apart := false, laid := [("pub-marram/pub/hcsshim/ext4/dmverity.ErrSuperBlockReadFailure", laid_pub_marram_pub_hcsshim_ext4_dmverity_ErrSuperBlockReadFailure), ("pub-marram/pub/hcsshim/ext4/dmverity.ErrSuperBlockParseFailure", laid_pub_marram_pub_hcsshim_ext4_dmverity_ErrSuperBlockParseFailure), ("pub-marram/pub/hcsshim/ext4/dmverity.ErrRootHashReadFailure", laid_pub_marram_pub_hcsshim_ext4_dmverity_ErrRootHashReadFailure), ("pub-marram/pub/hcsshim/ext4/dmverity.ErrNotVeritySuperBlock", laid_pub_marram_pub_hcsshim_ext4_dmverity_ErrNotVeritySuperBlock)] }
def FnVerityBackSaid : Prop := fnVerityBackRow.holds Tryd.pinned (OpenSpec.ofChange fnVerityBackSpec)

/-- ITS FALSE NEIGHBOUR: 'it returns false'. Refute it at one input. -/
def fnVerityBackWrong : ChangeSpec := { name := "fnVerityBack", fn := fun _ => fun
  | [d1, d2, d3] => { results := [.lit (.bool false)], args := [d1, d2, d3] }
  | _ => none }
def FnVerityBackWrongFalsely : Prop := fnVerityBackRow.holds Tryd.pinned (OpenSpec.ofChange fnVerityBackWrong)

/- THE SECOND FORM. 'bulk': how many values and letters a reading holds, each counted each time it is reached (what is shared counts as often as it is met; a slice's spare places count too). A statement '..UptoSaid' is the law's where the arguments, and the package variables that the reading takes, are together of bulk at most 1048576: NARROWER than '..Said'. Prove '..Said' where nothing that the law and all that it calls make is longer than what came in: it says more and counts as full. Else prove '..UptoSaid'. A law counts once. -/
mutual
def uptoBulk {H : Type} : DataW H → Nat
  | .lit (.string bytes) => bytes.length + 1
  | .lit _ => 1
  | .nil => 1
  | .ptr d => uptoBulk d + 1
  | .slice elems spare => uptoBulkAll elems + uptoBulkAll spare + 1
  | .agg parts => uptoBulkAll parts + 1
  | .iface _ d => uptoBulk d + 1
  | .map entries => uptoBulkEntries entries + 1
  | .held _ => 1
def uptoBulkAll {H : Type} : List (DataW H) → Nat
  | [] => 0
  | d :: r => uptoBulk d + uptoBulkAll r
def uptoBulkEntries {H : Type} : List (Lit × DataW H) → Nat
  | [] => 0
  | x :: r => uptoBulkEntry x + uptoBulkEntries r
def uptoBulkEntry {H : Type} : Lit × DataW H → Nat
  | (.string bytes, d) => bytes.length + uptoBulk d + 1
  | (_, d) => uptoBulk d + 1
 end
def uptoSmall : (H : Type) → List (DataW H) → Bool := fun _ ds => decide (uptoBulkAll ds ≤ 1048576)
def OpenSpec.upto (s : _root_.Go.ChangeSpec) : _root_.Go.OpenSpec := { _root_.Go.OpenSpec.ofChange s with cond := some uptoSmall }

/-- 'laws.FnContainsIn', WHERE WHAT IT READS IS OF BULK AT MOST 1048576: true; the input reads as it did. -/
def fnContainsInUptoRow : OpenClaim := { program := "ytfanlhkpblemgaadoor", sum := "f9d26004bfe22a492e7244897f17098c45cab02bbc1c2d674f516ca522b15879", func := "pub-marram/laws.FnContainsIn", spec := "fnContainsIn", named := ["io.EOF", "io.ErrUnexpectedEOF", "pub-marram/pub/afero/mem.ErrFileClosed"], apart := false, laid := [("io.EOF", laid_io_EOF), ("io.ErrUnexpectedEOF", laid_io_ErrUnexpectedEOF), ("pub-marram/pub/afero/mem.ErrFileClosed", laid_pub_marram_pub_afero_mem_ErrFileClosed)], narrowed := true }
def FnContainsInUptoSaid : Prop := fnContainsInUptoRow.holds Tryd.pinned (OpenSpec.upto fnContainsInSpec)

/-- 'laws.FnRealPath', WHERE WHAT IT READS IS OF BULK AT MOST 1048576: true; the input reads as it did. -/
def fnRealPathUptoRow : OpenClaim := { program := "ytfanlhkpblemgaadoor", sum := "f9d26004bfe22a492e7244897f17098c45cab02bbc1c2d674f516ca522b15879", func := "pub-marram/laws.FnRealPath", spec := "fnRealPath", named := ["pub-marram/pub/afero/inner/os.ErrNotExist", "pub-marram/pub/afero/inner/os.ErrExist", "pub-marram/pub/afero/inner/os.ENOTDIR", "pub-marram/pub/afero/inner/os.ENOENT", "pub-marram/pub/afero/mem.ErrFileClosed", "io.EOF", "io.ErrUnexpectedEOF", "pub-marram/pub/afero/mem.ErrOutOfRange", "pub-marram/pub/afero/inner/os.EPERM", "pub-marram/pub/afero/inner/os.EBADFD", "pub-marram/pub/afero/inner/os.EIO"], apart := false, laid := [("pub-marram/pub/afero/inner/os.ErrExist", laid_pub_marram_pub_afero_inner_os_ErrExist), ("pub-marram/pub/afero/inner/os.ErrNotExist", laid_pub_marram_pub_afero_inner_os_ErrNotExist), ("pub-marram/pub/afero/inner/os.ENOENT", laid_pub_marram_pub_afero_inner_os_ENOENT), ("pub-marram/pub/afero/inner/os.ENOTDIR", laid_pub_marram_pub_afero_inner_os_ENOTDIR), ("pub-marram/pub/afero/inner/os.EPERM", laid_pub_marram_pub_afero_inner_os_EPERM), ("pub-marram/pub/afero/inner/os.EIO", laid_pub_marram_pub_afero_inner_os_EIO), ("pub-marram/pub/afero/inner/os.EBADFD", laid_pub_marram_pub_afero_inner_os_EBADFD), ("io.EOF", laid_io_EOF), ("io.ErrUnexpectedEOF", laid_io_ErrUnexpectedEOF), ("pub-marram/pub/afero/mem.ErrFileClosed", laid_pub_marram_pub_afero_mem_ErrFileClosed), ("pub-marram/pub/afero/mem.ErrOutOfRange", laid_pub_marram_pub_afero_mem_ErrOutOfRange)], narrowed := true }
def FnRealPathUptoSaid : Prop := fnRealPathUptoRow.holds Tryd.pinned (OpenSpec.upto fnRealPathSpec)

/-- 'laws.FnRealPathForms', WHERE WHAT IT READS IS OF BULK AT MOST 1048576: true; the input reads as it did. -/
def fnRealPathFormsUptoRow : OpenClaim := { program := "ytfanlhkpblemgaadoor", sum := "f9d26004bfe22a492e7244897f17098c45cab02bbc1c2d674f516ca522b15879", func := "pub-marram/laws.FnRealPathForms", spec := "fnRealPathForms", named := ["pub-marram/pub/afero/inner/os.ErrNotExist", "pub-marram/pub/afero/inner/os.ErrExist", "pub-marram/pub/afero/inner/os.ENOTDIR", "pub-marram/pub/afero/inner/os.ENOENT", "pub-marram/pub/afero/mem.ErrFileClosed", "io.EOF", "io.ErrUnexpectedEOF", "pub-marram/pub/afero/mem.ErrOutOfRange", "pub-marram/pub/afero/inner/os.EPERM", "pub-marram/pub/afero/inner/os.EBADFD", "pub-marram/pub/afero/inner/os.EIO"], apart := false, laid := [("pub-marram/pub/afero/inner/os.ErrExist", laid_pub_marram_pub_afero_inner_os_ErrExist), ("pub-marram/pub/afero/inner/os.ErrNotExist", laid_pub_marram_pub_afero_inner_os_ErrNotExist), ("pub-marram/pub/afero/inner/os.ENOENT", laid_pub_marram_pub_afero_inner_os_ENOENT), ("pub-marram/pub/afero/inner/os.ENOTDIR", laid_pub_marram_pub_afero_inner_os_ENOTDIR), ("pub-marram/pub/afero/inner/os.EPERM", laid_pub_marram_pub_afero_inner_os_EPERM), ("pub-marram/pub/afero/inner/os.EIO", laid_pub_marram_pub_afero_inner_os_EIO), ("pub-marram/pub/afero/inner/os.EBADFD", laid_pub_marram_pub_afero_inner_os_EBADFD), ("io.EOF", laid_io_EOF), ("io.ErrUnexpectedEOF", laid_io_ErrUnexpectedEOF), ("pub-marram/pub/afero/mem.ErrFileClosed", laid_pub_marram_pub_afero_mem_ErrFileClosed), ("pub-marram/pub/afero/mem.ErrOutOfRange", laid_pub_marram_pub_afero_mem_ErrOutOfRange)], narrowed := true }
def FnRealPathFormsUptoSaid : Prop := fnRealPathFormsUptoRow.holds Tryd.pinned (OpenSpec.upto fnRealPathFormsSpec)

/-- 'laws.FnVerityBack', WHERE WHAT IT READS IS OF BULK AT MOST 1048576: true; the input reads as it did. -/
def fnVerityBackUptoRow : OpenClaim := { program := "ytfanlhkpblemgaadoor", sum := "f9d26004bfe22a492e7244897f17098c45cab02bbc1c2d674f516ca522b15879", func := "pub-marram/laws.FnVerityBack", spec := "fnVerityBack", unfollowed := true, recurses := true, named := ["pub-marram/pub/hcsshim/ext4/dmverity.ErrSuperBlockReadFailure", "pub-marram/pub/hcsshim/ext4/dmverity.ErrRootHashReadFailure", "pub-marram/pub/hcsshim/ext4/dmverity.ErrNotVeritySuperBlock", "pub-marram/pub/hcsshim/ext4/dmverity.ErrSuperBlockParseFailure"], apart := false, laid := [("pub-marram/pub/hcsshim/ext4/dmverity.ErrSuperBlockReadFailure", laid_pub_marram_pub_hcsshim_ext4_dmverity_ErrSuperBlockReadFailure), ("pub-marram/pub/hcsshim/ext4/dmverity.ErrSuperBlockParseFailure", laid_pub_marram_pub_hcsshim_ext4_dmverity_ErrSuperBlockParseFailure), ("pub-marram/pub/hcsshim/ext4/dmverity.ErrRootHashReadFailure", laid_pub_marram_pub_hcsshim_ext4_dmverity_ErrRootHashReadFailure), ("pub-marram/pub/hcsshim/ext4/dmverity.ErrNotVeritySuperBlock", laid_pub_marram_pub_hcsshim_ext4_dmverity_ErrNotVeritySuperBlock)], narrowed := true }
def FnVerityBackUptoSaid : Prop := fnVerityBackUptoRow.holds Tryd.pinned (OpenSpec.upto fnVerityBackSpec)

end Rows
end Go.Proofs.YtfanlhkpblemgaaDoor
