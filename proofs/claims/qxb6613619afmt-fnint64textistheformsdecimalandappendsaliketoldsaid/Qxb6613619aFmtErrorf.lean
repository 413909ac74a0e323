/-
  fmt.Errorf BY ITS CONTRACTS, a format each: it hands back a new error (no nil), in new memory.
-/
import Derived.Test.Qxb6613619aFmtFacts
import Derived.Below
import Derived.Handy
namespace Go.Proofs.Qxb6613619aFmt
open Go.RowKit Go.Extern.Stop Go.Stop Go.Extern
attribute [local go_sem] Fm.call42 Fm.guard Fm.bytes Fm.bytesR Fm.bytes0 Fm.bytes0R Fm.differs Fm.differsR Fm.differs0 Fm.differs0R Fm.time Fm.timeR Fm.time0 Fm.time0R Fm.hold Fm.holdR Fm.hold0 Fm.hold0R Fm.op9_115w Fm.op3_100w Fm.op2_100w Fm.ptr75 Fm.elem75 Fm.isError75 Fm.ptr68 Fm.elem68 Fm.isError68

/-- What a call that makes an error leaves: an error that is not nil; nothing old has turned. -/
def ErrOut (w : World) (e : Ending) (w' : World) : Prop := (∃ a, e = .returned (.iface 68 (.pointer (some a)))) ∧ Below w.heap.size w w'

theorem errorf_bytes (F : Interp) (a : Addr) (s : ByteArray) (g : Nat) (n m : Int) (w : World) (hF : F.answers w.tape) (hs : w.cell? a = some (.string s))
    (h0 : w.cell? ⟨g, 0, none⟩ = some (.iface 75 (.pointer (some a)))) (h1 : w.cell? ⟨g, 1, none⟩ = some (.iface 3 (.int .i64 n))) (h2 : w.cell? ⟨g, 2, none⟩ = some (.iface 3 (.int .i64 m))) :
    Calls Tryf.prog 37 #[.string ⟨#[37, 119, 58, 32, 37, 100, 32, 98, 121, 116, 101, 115, 44, 32, 110, 111, 116, 32, 37, 100]⟩, .slice (some ⟨g, 0, none⟩) 3 3] w (ErrOut w) := by
  have hF' := answers_open hF
  have hop := Fm.opPlain75_119w "fmt.errorf" a s w hs
  go_enter Tryf.func37, Tryf.ntmps37
  go_wp2
  go_ret
  exact ⟨⟨_, rfl⟩, ((Below.refl _ w).alloc (Nat.le_refl _) _).drew⟩

theorem errorf_differs (F : Interp) (a : Addr) (s : ByteArray) (g : Nat) (n : Int) (t : ByteArray) (w : World) (hF : F.answers w.tape) (hs : w.cell? a = some (.string s))
    (h0 : w.cell? ⟨g, 0, none⟩ = some (.iface 75 (.pointer (some a)))) (h1 : w.cell? ⟨g, 1, none⟩ = some (.iface 3 (.int .i64 n))) (h2 : w.cell? ⟨g, 2, none⟩ = some (.iface 9 (.string t))) :
    Calls Tryf.prog 37 #[.string ⟨#[37, 119, 58, 32, 100, 105, 102, 102, 101, 114, 115, 32, 97, 116, 32, 99, 104, 97, 114, 97, 99, 116, 101, 114, 32, 37, 100, 32, 102, 114, 111, 109, 32, 116, 104, 101, 32, 102, 111, 114, 109, 32, 37, 115]⟩, .slice (some ⟨g, 0, none⟩) 3 3] w (ErrOut w) := by
  have hF' := answers_open hF
  have hop := Fm.opPlain75_119w "fmt.errorf" a s w hs
  go_enter Tryf.func37, Tryf.ntmps37
  go_wp2
  go_ret
  exact ⟨⟨_, rfl⟩, ((Below.refl _ w).alloc (Nat.le_refl _) _).drew⟩

theorem errorf_time (F : Interp) (a : Addr) (s : ByteArray) (g : Nat) (w : World) (hF : F.answers w.tape) (hs : w.cell? a = some (.string s))
    (h0 : w.cell? ⟨g, 0, none⟩ = some (.iface 75 (.pointer (some a)))) :
    Calls Tryf.prog 37 #[.string ⟨#[37, 119, 58, 32, 110, 111, 116, 32, 97, 32, 116, 105, 109, 101, 32, 102, 114, 111, 109, 32, 49, 57, 55, 48, 32, 116, 111, 32, 57, 57, 57, 57]⟩, .slice (some ⟨g, 0, none⟩) 1 1] w (ErrOut w) := by
  have hF' := answers_open hF
  have hop := Fm.opPlain75_119w "fmt.errorf" a s w hs
  go_enter Tryf.func37, Tryf.ntmps37
  go_wp2
  go_ret
  exact ⟨⟨_, rfl⟩, ((Below.refl _ w).alloc (Nat.le_refl _) _).drew⟩

theorem errorf_hold (F : Interp) (a : Addr) (s : ByteArray) (g : Nat) (n m l : Int) (w : World) (hF : F.answers w.tape) (hs : w.cell? a = some (.string s))
    (h0 : w.cell? ⟨g, 0, none⟩ = some (.iface 75 (.pointer (some a)))) (h1 : w.cell? ⟨g, 1, none⟩ = some (.iface 2 (.int .i64 n))) (h2 : w.cell? ⟨g, 2, none⟩ = some (.iface 3 (.int .i64 m))) (h3 : w.cell? ⟨g, 3, none⟩ = some (.iface 3 (.int .i64 l))) :
    Calls Tryf.prog 37 #[.string ⟨#[37, 119, 58, 32, 116, 105, 109, 101, 32, 37, 100, 32, 109, 115, 44, 32, 99, 111, 117, 110, 116, 101, 114, 32, 37, 100, 44, 32, 110, 111, 100, 101, 32, 37, 100]⟩, .slice (some ⟨g, 0, none⟩) 4 4] w (ErrOut w) := by
  have hF' := answers_open hF
  have hop := Fm.opPlain75_119w "fmt.errorf" a s w hs
  go_enter Tryf.func37, Tryf.ntmps37
  go_wp2
  go_ret
  exact ⟨⟨_, rfl⟩, ((Below.refl _ w).alloc (Nat.le_refl _) _).drew⟩

theorem ErrOut.past {w : World} {o : Obj} {e : Ending} {w' : World} (h : ErrOut (w.alloc o) e w') : ErrOut w e w' :=
  ⟨h.1, ((Below.refl _ w).alloc (Nat.le_refl _) o).trans (h.2.mono (by simp))⟩

/-- .. behind the variadic slice's new block. -/
theorem errorf_bytes_new (F : Interp) (a : Addr) (s : ByteArray) (n m : Int) (w : World) (hF : F.answers w.tape) (hs : w.cell? a = some (.string s)) :
    Calls Tryf.prog 37 #[.string ⟨#[37, 119, 58, 32, 37, 100, 32, 98, 121, 116, 101, 115, 44, 32, 110, 111, 116, 32, 37, 100]⟩, .slice (some ⟨w.heap.size, 0, none⟩) 3 3] (w.alloc (.cells #[.iface 75 (.pointer (some a)), .iface 3 (.int .i64 n), .iface 3 (.int .i64 m)] 20)) (ErrOut w) :=
  (errorf_bytes F a s w.heap.size n m (w.alloc (.cells #[.iface 75 (.pointer (some a)), .iface 3 (.int .i64 n), .iface 3 (.int .i64 m)] 20)) hF ((World.cell?_alloc_lt _ _ _ (World.block_lt_of_cell? _ _ hs)).trans hs) (by go_simp) (by go_simp) (by go_simp)).mono fun _ _ h => h.past

/-- .. behind the variadic slice's new block. -/
theorem errorf_differs_new (F : Interp) (a : Addr) (s : ByteArray) (n : Int) (t : ByteArray) (w : World) (hF : F.answers w.tape) (hs : w.cell? a = some (.string s)) :
    Calls Tryf.prog 37 #[.string ⟨#[37, 119, 58, 32, 100, 105, 102, 102, 101, 114, 115, 32, 97, 116, 32, 99, 104, 97, 114, 97, 99, 116, 101, 114, 32, 37, 100, 32, 102, 114, 111, 109, 32, 116, 104, 101, 32, 102, 111, 114, 109, 32, 37, 115]⟩, .slice (some ⟨w.heap.size, 0, none⟩) 3 3] (w.alloc (.cells #[.iface 75 (.pointer (some a)), .iface 3 (.int .i64 n), .iface 9 (.string t)] 20)) (ErrOut w) :=
  (errorf_differs F a s w.heap.size n t (w.alloc (.cells #[.iface 75 (.pointer (some a)), .iface 3 (.int .i64 n), .iface 9 (.string t)] 20)) hF ((World.cell?_alloc_lt _ _ _ (World.block_lt_of_cell? _ _ hs)).trans hs) (by go_simp) (by go_simp) (by go_simp)).mono fun _ _ h => h.past

/-- .. behind the variadic slice's new block. -/
theorem errorf_time_new (F : Interp) (a : Addr) (s : ByteArray) (w : World) (hF : F.answers w.tape) (hs : w.cell? a = some (.string s)) :
    Calls Tryf.prog 37 #[.string ⟨#[37, 119, 58, 32, 110, 111, 116, 32, 97, 32, 116, 105, 109, 101, 32, 102, 114, 111, 109, 32, 49, 57, 55, 48, 32, 116, 111, 32, 57, 57, 57, 57]⟩, .slice (some ⟨w.heap.size, 0, none⟩) 1 1] (w.alloc (.cells #[.iface 75 (.pointer (some a))] 20)) (ErrOut w) :=
  (errorf_time F a s w.heap.size  (w.alloc (.cells #[.iface 75 (.pointer (some a))] 20)) hF ((World.cell?_alloc_lt _ _ _ (World.block_lt_of_cell? _ _ hs)).trans hs) (by go_simp)).mono fun _ _ h => h.past

/-- .. behind the variadic slice's new block. -/
theorem errorf_hold_new (F : Interp) (a : Addr) (s : ByteArray) (n m l : Int) (w : World) (hF : F.answers w.tape) (hs : w.cell? a = some (.string s)) :
    Calls Tryf.prog 37 #[.string ⟨#[37, 119, 58, 32, 116, 105, 109, 101, 32, 37, 100, 32, 109, 115, 44, 32, 99, 111, 117, 110, 116, 101, 114, 32, 37, 100, 44, 32, 110, 111, 100, 101, 32, 37, 100]⟩, .slice (some ⟨w.heap.size, 0, none⟩) 4 4] (w.alloc (.cells #[.iface 75 (.pointer (some a)), .iface 2 (.int .i64 n), .iface 3 (.int .i64 m), .iface 3 (.int .i64 l)] 20)) (ErrOut w) :=
  (errorf_hold F a s w.heap.size n m l (w.alloc (.cells #[.iface 75 (.pointer (some a)), .iface 2 (.int .i64 n), .iface 3 (.int .i64 m), .iface 3 (.int .i64 l)] 20)) hF ((World.cell?_alloc_lt _ _ _ (World.block_lt_of_cell? _ _ hs)).trans hs) (by go_simp) (by go_simp) (by go_simp) (by go_simp)).mono fun _ _ h => h.past

end Go.Proofs.Qxb6613619aFmt
