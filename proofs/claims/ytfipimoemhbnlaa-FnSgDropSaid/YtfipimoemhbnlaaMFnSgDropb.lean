/- The package's reader of complete types at a text's beginning, as the laws ask it. -/
import Derived.Test.YtfipimoemhbnlaaMFnSgDropp
import Derived.Test.YtfipimoemhbnlaaMFnSgDropy
namespace Go.Proofs.Ytfipimoemhbnlaa.MFnSgDropb
open Go Go.RowKit Go.Proofs.Ytfipimoemhbnlaa.MFnSgDrop Go.Proofs.YtfipimoemhbnlaaW.PrintWords Go.Proofs.YtfipimoemhbnlaaW.PrintLast Go.Proofs.Ytfipimoemhbnlaa.Hlp Go.Proofs.Ytfipimoemhbnlaa.SgT Go.Proofs.Ytfipimoemhbnlaa.MFnSgDropi Go.Proofs.Ytfipimoemhbnlaa.MFnSgDropt Go.Proofs.Ytfipimoemhbnlaa.MFnSgDropp
set_option linter.unusedVariables false

theorem sb_take {x rest : List UInt8} (tt : T 32 32 32 x) {s : ByteArray} (hb : bl s = x ++ rest) (hs : s.size ≤ 1000000000) : Ev (fun k => impl_SgBegin.f k s 0 0 0) (s.extract x.length s.size, true) := by
  have h := takes tt s 0 0 0 rest (by omega) (by omega) (by omega) (by omega) (by omega) (by omega) hb hs
  unfold impl_SgBegin.f dbus_DoorBegin.f
  exact Ev.bind (Ev.bind h (Ev.now _)) (ev_ite_pos rfl (fun _ => rfl) (Ev.now _))
theorem rd_at {L : List ByteArray} {i : Nat} {z : ByteArray} {r : List ByteArray} (h : L.drop i = z :: r) : rdOf ByteArray.empty L (i : Int) = z := by
  unfold rdOf
  rw [Int.toNat_natCast]
  have e : L.getD i ByteArray.empty = (L.drop i).getD 0 ByteArray.empty := by simp [List.getD_eq_getElem?_getD]
  rw [e, h]; rfl
theorem ldrop_lt {L : List ByteArray} {i : Nat} {z : ByteArray} {r : List ByteArray} (h : L.drop i = z :: r) : i < L.length := by
  have := congrArg List.length h
  rw [List.length_drop] at this
  simp at this; omega
theorem ldrop_succ {L : List ByteArray} {i : Nat} {z : ByteArray} {r : List ByteArray} (h : L.drop i = z :: r) : L.drop (i + 1) = r := by
  rw [← List.drop_drop, h]; rfl
theorem wi (i : Nat) (h : i ≤ 1000000000) : wrap64 ((i : Int) + 1) = ((i + 1 : Nat) : Int) := w64 (by omega) (by omega)
/-- How many bytes were taken. -/
theorem wd {s : ByteArray} {n : Nat} (hs : s.size ≤ 1000000000) (hn : n ≤ s.size) : wrap64 ((s.size : Int) - ((s.extract n s.size).size : Int)) = (n : Int) := by
  rw [size_drop, w64 (by omega) (by omega)]; omega
theorem front {s z : ByteArray} {rest : List UInt8} (hb : bl s = bl z ++ rest) : (s.extract 0 (bl z).length).toList = z.toList := by
  rw [toList_bl, toList_bl, bl_extract, hb]; simp
end Go.Proofs.Ytfipimoemhbnlaa.MFnSgDropb
