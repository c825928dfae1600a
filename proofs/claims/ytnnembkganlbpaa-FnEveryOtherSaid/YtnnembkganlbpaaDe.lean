/- What memory holds: items, nodes, the free list, the context; and the lock's two calls. -/
import Derived.Test.YtnnembkganlbpaaFa
import Derived.Test.YtnnembkganlbpaaPure
import Derived.Conc.MuLone
namespace Go.Proofs.Ytnnembkganlbpaa
open Go Go.Sl Go.Net Go.Wk Go.Bt Go.RowKit

abbrev mul : Go.Conc.Locks.MuLink := { lock := 90, unlock := 91, ilock := 99, iunlock := 100, lockSlow := 107, unlockSlow := 110, disable := 103, enable := 105, acquire := 106, relMerge := 108, cas32 := 104, add32 := 109, tMutex := 79, tIMutex := 77, tPMutex := 139, tPIMutex := 141, tPI32 := 143, tUP := 145, tNoCopy := 74, tU32 := 75 }
theorem muLib : Go.Conc.Locks.MuLib Try.prog mul :=
  ⟨Try.func90, Try.func91, Try.func99, Try.func100, Try.func103, Try.func105, Try.func106, Try.func108, Try.func104, Try.func109, Try.underlying77, Try.runUnderlying77, Try.sizeOf77, Try.isAgg77, Try.zeroValue77, Try.underlying79, Try.runUnderlying79, Try.sizeOf79, Try.isAgg79, Try.zeroValue79, Try.underlying139, Try.runUnderlying139, Try.sizeOf139, Try.isAgg139, Try.zeroValue139, Try.underlying141, Try.runUnderlying141, Try.sizeOf141, Try.isAgg141, Try.zeroValue141, Try.underlying143, Try.runUnderlying143, Try.sizeOf143, Try.isAgg143, Try.zeroValue143, Try.underlying145, Try.runUnderlying145, Try.sizeOf145, Try.isAgg145, Try.zeroValue145, Try.underlying74, Try.runUnderlying74, Try.sizeOf74, Try.isAgg74, Try.zeroValue74, Try.underlying21, Try.runUnderlying21, Try.sizeOf21, Try.isAgg21, Try.zeroValue21, (by kernel_rfl)⟩

def ptr (b : Nat) : Value := .pointer (some ⟨b, 0, none⟩)
def enc (x : It) : List Value := [.int .i64 x.key, .int .i64 x.val]
def encs (l : List It) : List Value := l.flatMap enc
def itV (x : It) : Value := .agg #[.int .i64 x.key, .int .i64 x.val]
abbrev IArr (v : Value) (l : List It) : HProp := Arr 45 2 v l.length (encs l)
abbrev PArr (v : Value) (bs : List Nat) : HProp := Arr 85 1 v bs.length (bs.map ptr)
def NodeP (c b : Nat) (its : List It) (bs : List Nat) : HProp := ex fun p : Value × Value => pts b (.cells #[p.1, p.2, ptr c] 103 (0, 0)) * (IArr p.1 its * PArr p.2 bs)
def FreeP (b : Nat) : HProp := ex fun p : Value × Value => pts b (.cells #[p.1, p.2, .pointer none] 103 (0, 0)) * (IArr p.1 [] * PArr p.2 [])
def lessV : Value := .func (.func 40) #[] #[]
def CowP (c fl : Nat) : HProp := pts c (.cells #[ptr fl, lessV] 84 (0, 0))
def FLP (fl : Nat) : HProp := ex fun x : Value × List Nat => pts fl (.cells #[.int .i32 0, .int .u32 0, x.1] 81 (0, 0)) * (PArr x.1 x.2 * stars (x.2.map FreeP))
def Ctx (c fl : Nat) : HProp := CowP c fl * FLP fl

theorem lock_ok (fl : Nat) (x y : Value) : Tri Try.prog 90 #[.pointer (some ⟨fl, 0, none⟩)] (pts fl (.cells #[.int .i32 0, x, y] 81 (0, 0))) fun _ => pts fl (.cells #[.int .i32 1, x, y] 81 (0, 0)) := by
  intro w0 F w hs
  refine (MuLone.lock_free muLib ⟨fl, 0, none⟩ w (hs.cell 0) (hs.frozen 0)).mono ?_
  rintro e w' ⟨rfl, rfl⟩
  exact ⟨_, rfl, hs.setCell 0 (.int .i32 1)⟩
theorem unlock_ok (fl : Nat) (x y : Value) : Tri Try.prog 91 #[.pointer (some ⟨fl, 0, none⟩)] (pts fl (.cells #[.int .i32 1, x, y] 81 (0, 0))) fun _ => pts fl (.cells #[.int .i32 0, x, y] 81 (0, 0)) := by
  intro w0 F w hs
  refine (MuLone.unlock_held muLib ⟨fl, 0, none⟩ w (hs.cell 0) (hs.frozen 0)).mono ?_
  rintro e w' ⟨rfl, rfl⟩
  exact ⟨_, rfl, hs.setCell 0 (.int .i32 0)⟩
end Go.Proofs.Ytnnembkganlbpaa
