/-
  NARROWER THAN 'FOR EVERY INPUT', by the rows' own cells (each row's printed sentence says how): LawS4791BScript: laid · LawS4791CStat: laid · LawS4791CAfterClose: laid.
  DERIVED. THE GIVEN ROWS OF THIS SEAT. 3 by the template 'for every input the law returns true; each argument reads behind the call as it read before'; 0 by the template 'total and deterministic' (their statements: YbulkcueuDoorTotals.lean).
  GIVEN WITH THE SEED: the statements are not yours to turn. If you find one false, say at which input.
  Laid BY PROGRAM, IN A SANDBOX (cutbox-rows.mjs): the forced cells as the released guide's own fill.sh prints them over the translation b28dfc260bfe231a… (all of the seat's roots in one cut). By AI agents, Wed Nov 11 2026. No macro, syntax, notation, axiom, sorry.
-/
import Derived.Test.YbulkcueuDoorChecked
import GoSem.PinnedTables
import GoSem.Claim
import GoSem.ClaimJoined
import GoSem.ClaimMapViews
import Derived.JoinedTies
import Derived.KernelRfl
namespace Go.Proofs.YbulkcueuDoor
/- THE CELL 'sum', in the pinned program and in every row, IS THE sha256 OF THE DUMP (.gsa) THAT YbulkcueuDoorProg.lean LOADS. Nothing in Lean hashes anything: it is a label: what it is worth is what the hold of that sum in a sandbox is worth. -/
noncomputable def Ybad.pinned : Pinned := { name := "ybulkcueudoor", sum := "b28dfc260bfe231a2211dc6e1d9c3ba76792b53e39b15461c154e28250228cbb", checked := Ybad.checked }
namespace Rows
def none {H : Type} : Left H := { results := [], args := [] }

/- WHAT THE LISTED PACKAGE-LEVEL VARIABLES READ AS WHEN THE CALL BEGINS. Each datum BY PROGRAM (the guide's laid-datum.mjs) off the statement by which the dump's own 'gosem.cut.vars' lays the variable. In a bare row this is a premise. The card (YbulkcueuDoorCards.lean) ties it to the program's text. -/
def laid_unicode_utf8_acceptRanges {H : Type} : DataW H := .agg [.agg [.lit (.int .u8 128), .lit (.int .u8 191)], .agg [.lit (.int .u8 160), .lit (.int .u8 191)], .agg [.lit (.int .u8 128), .lit (.int .u8 159)], .agg [.lit (.int .u8 144), .lit (.int .u8 191)], .agg [.lit (.int .u8 128), .lit (.int .u8 143)], .agg [.lit (.int .u8 0), .lit (.int .u8 0)], .agg [.lit (.int .u8 0), .lit (.int .u8 0)], .agg [.lit (.int .u8 0), .lit (.int .u8 0)], .agg [.lit (.int .u8 0), .lit (.int .u8 0)], .agg [.lit (.int .u8 0), .lit (.int .u8 0)], .agg [.lit (.int .u8 0), .lit (.int .u8 0)], .agg [.lit (.int .u8 0), .lit (.int .u8 0)], .agg [.lit (.int .u8 0), .lit (.int .u8 0)], .agg [.lit (.int .u8 0), .lit (.int .u8 0)], .agg [.lit (.int .u8 0), .lit (.int .u8 0)], .agg [.lit (.int .u8 0), .lit (.int .u8 0)]]
def laid_errors_errorType {H : Type} : DataW H := .iface "internal/reflectlite.rtype" (.agg [.ptr (.lit (.string [101, 114, 114, 111, 114]))])
def laid_io_fs_ErrExist {H : Type} : DataW H := .iface "*errors.errorString" (.ptr (.agg [.lit (.string [102, 105, 108, 101, 32, 97, 108, 114, 101, 97, 100, 121, 32, 101, 120, 105, 115, 116, 115])]))
def laid_io_fs_ErrNotExist {H : Type} : DataW H := .iface "*errors.errorString" (.ptr (.agg [.lit (.string [102, 105, 108, 101, 32, 100, 111, 101, 115, 32, 110, 111, 116, 32, 101, 120, 105, 115, 116])]))
/-- One of Go's own tables, pinned by name: the form's constant. -/
def laid_unicode_utf8_first : DataW Unit := Go.Pinned.utf8First
def laid_io_fs_ErrClosed {H : Type} : DataW H := .iface "*errors.errorString" (.ptr (.agg [.lit (.string [102, 105, 108, 101, 32, 97, 108, 114, 101, 97, 100, 121, 32, 99, 108, 111, 115, 101, 100])]))

/-- 'vfstest.LawS4791BScript': WHATEVER THE INPUT: true; the input reads as it did. -/
def lawS4791BScriptSpec : ChangeSpec := { name := "lawS4791BScript", fn := fun _ => fun
  | [d] => { results := [.lit (.bool true)], args := [d] }
  | _ => none }
def lawS4791BScriptRow : OpenClaim := { program := "ybulkcueudoor", sum := "b28dfc260bfe231a2211dc6e1d9c3ba76792b53e39b15461c154e28250228cbb", func := "example.com/seqsmith/seqsmith/pkg/vfs/vfstest.LawS4791BScript", spec := "lawS4791BScript", inPlace := ["(*internal/sync.Mutex).Lock", "internal/race.Disable", "sync/atomic.CompareAndSwapInt32", "internal/race.Enable", "internal/race.Acquire", "(*internal/sync.Mutex).lockSlow", "internal/sync.runtime_canSpin", "internal/sync.runtime_doSpin", "internal/sync.throw", "internal/sync.runtime_nanotime", "internal/sync.runtime_SemacquireMutex", "sync/atomic.AddInt32", "(*internal/sync.Mutex).Unlock", "internal/race.ReleaseMerge", "(*internal/sync.Mutex).unlockSlow", "internal/sync.fatal", "internal/sync.runtime_Semrelease", "internal/bytealg.CountString", "internal/bytealg.IndexByteString", "internal/bytealg.IndexString", "internal/reflectlite.ValueOf", "(internal/reflectlite.Value).Type", "(internal/reflectlite.Value).IsNil", "internal/reflectlite.TypeOf", "(internal/reflectlite.Value).Elem", "(internal/reflectlite.Value).Set"], unfollowed := true, recurses := true, named := ["io/fs.ErrExist", "io/fs.ErrNotExist", "unicode/utf8.first", "unicode/utf8.acceptRanges", "internal/bytealg.MaxLen", "errors.errorType"], apart := false, laid := [("unicode/utf8.acceptRanges", laid_unicode_utf8_acceptRanges), ("errors.errorType", laid_errors_errorType), ("io/fs.ErrExist", laid_io_fs_ErrExist), ("io/fs.ErrNotExist", laid_io_fs_ErrNotExist), ("unicode/utf8.first", laid_unicode_utf8_first)] }
def LawS4791BScriptSaid : Prop := lawS4791BScriptRow.holds Ybad.pinned (OpenSpec.ofChange lawS4791BScriptSpec)

/-- ITS FALSE NEIGHBOUR: 'it returns false'. Refute it at one input. -/
def lawS4791BScriptWrong : ChangeSpec := { name := "lawS4791BScript", fn := fun _ => fun
  | [d] => { results := [.lit (.bool false)], args := [d] }
  | _ => none }
def LawS4791BScriptWrongFalsely : Prop := lawS4791BScriptRow.holds Ybad.pinned (OpenSpec.ofChange lawS4791BScriptWrong)

/-- 'vfstest.LawS4791CStat': WHATEVER THE INPUT: true; the input reads as it did. -/
def lawS4791CStatSpec : ChangeSpec := { name := "lawS4791CStat", fn := fun _ => fun
  | [d1, d2, d3, d4, d5, d6, d7, d8] => { results := [.lit (.bool true)], args := [d1, d2, d3, d4, d5, d6, d7, d8] }
  | _ => none }
def lawS4791CStatRow : OpenClaim := { program := "ybulkcueudoor", sum := "b28dfc260bfe231a2211dc6e1d9c3ba76792b53e39b15461c154e28250228cbb", func := "example.com/seqsmith/seqsmith/pkg/vfs/vfstest.LawS4791CStat", spec := "lawS4791CStat", inPlace := ["(*internal/sync.Mutex).Lock", "internal/race.Disable", "sync/atomic.CompareAndSwapInt32", "internal/race.Enable", "internal/race.Acquire", "(*internal/sync.Mutex).lockSlow", "internal/sync.runtime_canSpin", "internal/sync.runtime_doSpin", "internal/sync.throw", "internal/sync.runtime_nanotime", "internal/sync.runtime_SemacquireMutex", "sync/atomic.AddInt32", "(*internal/sync.Mutex).Unlock", "internal/race.ReleaseMerge", "(*internal/sync.Mutex).unlockSlow", "internal/sync.fatal", "internal/sync.runtime_Semrelease", "(*internal/sync.Mutex).TryLock"], named := ["io/fs.ErrClosed"], apart := false, laid := [("io/fs.ErrClosed", laid_io_fs_ErrClosed)] }
def LawS4791CStatSaid : Prop := lawS4791CStatRow.holds Ybad.pinned (OpenSpec.ofChange lawS4791CStatSpec)

/-- ITS FALSE NEIGHBOUR: 'it returns false'. Refute it at one input. -/
def lawS4791CStatWrong : ChangeSpec := { name := "lawS4791CStat", fn := fun _ => fun
  | [d1, d2, d3, d4, d5, d6, d7, d8] => { results := [.lit (.bool false)], args := [d1, d2, d3, d4, d5, d6, d7, d8] }
  | _ => none }
def LawS4791CStatWrongFalsely : Prop := lawS4791CStatRow.holds Ybad.pinned (OpenSpec.ofChange lawS4791CStatWrong)

/-- 'vfstest.LawS4791CAfterClose': WHATEVER THE INPUT: true; the input reads as it did. -/
def lawS4791CAfterCloseSpec : ChangeSpec := { name := "lawS4791CAfterClose", fn := fun _ => fun
  | [d1, d2, d3, d4] => { results := [.lit (.bool true)], args := [d1, d2, d3, d4] }
  | _ => none }
def lawS4791CAfterCloseRow : OpenClaim := { program := "ybulkcueudoor", sum := "b28dfc260bfe231a2211dc6e1d9c3ba76792b53e39b15461c154e28250228cbb", func := "example.com/seqsmith/seqsmith/pkg/vfs/vfstest.LawS4791CAfterClose", spec := "lawS4791CAfterClose", inPlace := ["(*internal/sync.Mutex).Lock", "internal/race.Disable", "sync/atomic.CompareAndSwapInt32", "internal/race.Enable", "internal/race.Acquire", "(*internal/sync.Mutex).lockSlow", "internal/sync.runtime_canSpin", "internal/sync.runtime_doSpin", "internal/sync.throw", "internal/sync.runtime_nanotime", "internal/sync.runtime_SemacquireMutex", "sync/atomic.AddInt32", "(*internal/sync.Mutex).Unlock", "internal/race.ReleaseMerge", "(*internal/sync.Mutex).unlockSlow", "internal/sync.fatal", "internal/sync.runtime_Semrelease", "(*internal/sync.Mutex).TryLock"], named := ["io/fs.ErrClosed"], apart := false, laid := [("io/fs.ErrClosed", laid_io_fs_ErrClosed)] }
def LawS4791CAfterCloseSaid : Prop := lawS4791CAfterCloseRow.holds Ybad.pinned (OpenSpec.ofChange lawS4791CAfterCloseSpec)

/-- ITS FALSE NEIGHBOUR: 'it returns false'. Refute it at one input. -/
def lawS4791CAfterCloseWrong : ChangeSpec := { name := "lawS4791CAfterClose", fn := fun _ => fun
  | [d1, d2, d3, d4] => { results := [.lit (.bool false)], args := [d1, d2, d3, d4] }
  | _ => none }
def LawS4791CAfterCloseWrongFalsely : Prop := lawS4791CAfterCloseRow.holds Ybad.pinned (OpenSpec.ofChange lawS4791CAfterCloseWrong)

end Rows
end Go.Proofs.YbulkcueuDoor
