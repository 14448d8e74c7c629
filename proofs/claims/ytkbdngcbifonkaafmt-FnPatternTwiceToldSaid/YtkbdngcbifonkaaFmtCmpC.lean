/-
  compilePattern: the parts of a pattern, a walk a kind. Lines laid by a program of this session (mkcw.py).
-/
import Derived.Test.YtkbdngcbifonkaaFmtCmpA
import Derived.Test.YtkbdngcbifonkaaFmtCmpB
import Derived.Test.YtkbdngcbifonkaaFmtVmA
namespace Go.Proofs.YtkbdngcbifonkaaFmt
set_option linter.all false
open Go.RowKit

/-- What compiling leaves: the code, longer by this. -/
def Compiled (w0 : World) (I : Nat) (l m : List Pm.Ins) (k : Nat) (e : Ending) (w' : World) : Prop := ∃ B' c' us', IpAt w0 I (l ++ m) k w' B' c' us' ∧ e = .returned (.slice B' (l ++ m).length c')

theorem tp127_127 (v : Value) (w : World) : (Instr.typeAssert (.iface 127 v) 137 127 true).run Tryf.prog w = .ok (.tuple #[v, .bool true]) w := by kernel_rfl
theorem tp95_127 (v : Value) (w : World) : (Instr.typeAssert (.iface 95 v) 137 127 true).run Tryf.prog w = .ok (.tuple #[.pointer none, .bool false]) w := by kernel_rfl
theorem tp95_95 (v : Value) (w : World) : (Instr.typeAssert (.iface 95 v) 137 95 true).run Tryf.prog w = .ok (.tuple #[v, .bool true]) w := by kernel_rfl
theorem tp141_127 (v : Value) (w : World) : (Instr.typeAssert (.iface 141 v) 137 127 true).run Tryf.prog w = .ok (.tuple #[.pointer none, .bool false]) w := by kernel_rfl
theorem tp141_95 (v : Value) (w : World) : (Instr.typeAssert (.iface 141 v) 137 95 true).run Tryf.prog w = .ok (.tuple #[.pointer none, .bool false]) w := by kernel_rfl
theorem tp141_141 (v : Value) (w : World) : (Instr.typeAssert (.iface 141 v) 137 141 true).run Tryf.prog w = .ok (.tuple #[v, .bool true]) w := by kernel_rfl
theorem tp133_127 (v : Value) (w : World) : (Instr.typeAssert (.iface 133 v) 137 127 true).run Tryf.prog w = .ok (.tuple #[.pointer none, .bool false]) w := by kernel_rfl
theorem tp133_95 (v : Value) (w : World) : (Instr.typeAssert (.iface 133 v) 137 95 true).run Tryf.prog w = .ok (.tuple #[.pointer none, .bool false]) w := by kernel_rfl
theorem tp133_141 (v : Value) (w : World) : (Instr.typeAssert (.iface 133 v) 137 141 true).run Tryf.prog w = .ok (.tuple #[.pointer none, .bool false]) w := by kernel_rfl
theorem tp133_133 (v : Value) (w : World) : (Instr.typeAssert (.iface 133 v) 137 133 true).run Tryf.prog w = .ok (.tuple #[v, .bool true]) w := by kernel_rfl
theorem tp136_127 (v : Value) (w : World) : (Instr.typeAssert (.iface 136 v) 137 127 true).run Tryf.prog w = .ok (.tuple #[.pointer none, .bool false]) w := by kernel_rfl
theorem tp136_95 (v : Value) (w : World) : (Instr.typeAssert (.iface 136 v) 137 95 true).run Tryf.prog w = .ok (.tuple #[.pointer none, .bool false]) w := by kernel_rfl
theorem tp136_141 (v : Value) (w : World) : (Instr.typeAssert (.iface 136 v) 137 141 true).run Tryf.prog w = .ok (.tuple #[.pointer none, .bool false]) w := by kernel_rfl
theorem tp136_133 (v : Value) (w : World) : (Instr.typeAssert (.iface 136 v) 137 133 true).run Tryf.prog w = .ok (.tuple #[.pointer none, .bool false]) w := by kernel_rfl
theorem tp136_136 (v : Value) (w : World) : (Instr.typeAssert (.iface 136 v) 137 136 true).run Tryf.prog w = .ok (.tuple #[v, .bool true]) w := by kernel_rfl
theorem tp124_127 (v : Value) (w : World) : (Instr.typeAssert (.iface 124 v) 137 127 true).run Tryf.prog w = .ok (.tuple #[.pointer none, .bool false]) w := by kernel_rfl
theorem tp124_95 (v : Value) (w : World) : (Instr.typeAssert (.iface 124 v) 137 95 true).run Tryf.prog w = .ok (.tuple #[.pointer none, .bool false]) w := by kernel_rfl
theorem tp124_141 (v : Value) (w : World) : (Instr.typeAssert (.iface 124 v) 137 141 true).run Tryf.prog w = .ok (.tuple #[.pointer none, .bool false]) w := by kernel_rfl
theorem tp124_133 (v : Value) (w : World) : (Instr.typeAssert (.iface 124 v) 137 133 true).run Tryf.prog w = .ok (.tuple #[.pointer none, .bool false]) w := by kernel_rfl
theorem tp124_136 (v : Value) (w : World) : (Instr.typeAssert (.iface 124 v) 137 136 true).run Tryf.prog w = .ok (.tuple #[.pointer none, .bool false]) w := by kernel_rfl
theorem tp124_124 (v : Value) (w : World) : (Instr.typeAssert (.iface 124 v) 137 124 true).run Tryf.prog w = .ok (.tuple #[v, .bool true]) w := by kernel_rfl
theorem tp121_127 (v : Value) (w : World) : (Instr.typeAssert (.iface 121 v) 137 127 true).run Tryf.prog w = .ok (.tuple #[.pointer none, .bool false]) w := by kernel_rfl
theorem tp121_95 (v : Value) (w : World) : (Instr.typeAssert (.iface 121 v) 137 95 true).run Tryf.prog w = .ok (.tuple #[.pointer none, .bool false]) w := by kernel_rfl
theorem tp121_141 (v : Value) (w : World) : (Instr.typeAssert (.iface 121 v) 137 141 true).run Tryf.prog w = .ok (.tuple #[.pointer none, .bool false]) w := by kernel_rfl
theorem tp121_133 (v : Value) (w : World) : (Instr.typeAssert (.iface 121 v) 137 133 true).run Tryf.prog w = .ok (.tuple #[.pointer none, .bool false]) w := by kernel_rfl
theorem tp121_136 (v : Value) (w : World) : (Instr.typeAssert (.iface 121 v) 137 136 true).run Tryf.prog w = .ok (.tuple #[.pointer none, .bool false]) w := by kernel_rfl
theorem tp121_124 (v : Value) (w : World) : (Instr.typeAssert (.iface 121 v) 137 124 true).run Tryf.prog w = .ok (.tuple #[.pointer none, .bool false]) w := by kernel_rfl
theorem tp121_121 (v : Value) (w : World) : (Instr.typeAssert (.iface 121 v) 137 121 true).run Tryf.prog w = .ok (.tuple #[v, .bool true]) w := by kernel_rfl

set_option maxRecDepth 100000 in
set_option maxHeartbeats 8000000 in
theorem comp_one {w0 w : World} {I k c : Nat} {l : List Pm.Ins} {B : Option Addr} {us : List Value} {R mc : Nat} {v : Value} {cl : Pm.Cls} (HIP : Hid (IpAt w0 I l k w B c us)) (hl : l.length ≤ 900) (hR : w.cell? ⟨R, 0, none⟩ = some (ptr I)) (hr : RepPart w0 (· < w0.heap.size) v (.one cl)) :
    Calls Tryf.prog 38 #[v, sliceAt R 1 mc] w (Compiled w0 I l [.chr cl] k) := by
  obtain ⟨o, x, hok, rfl, hcell, hrc⟩ := hr
  obtain ⟨u, y, rfl⟩ := hrc.form
  have ho := HIP.out.ch.cell_some hcell id
  have HR := Lib.hid hrc
  clear hcell hrc hok
  have ta127 := tp127_127
  have q0 := HIP.out.c0
  have q1 := HIP.out.lt
  have hl0 : (0 : Int) ≤ l.length := Int.natCast_nonneg _
  go_enter Tryf.func38, Tryf.ntmps38
  go_wp2_with fail
  refine creg_one HIP (by omega) ho HR ?_
  intro w' B' c' us' _ _ _ _ _ _ _ _ _ _ _ _ _ _ h
  clear q0 q1
  have q0 := h.c0
  have q1 := h.lt
  have H := Lib.hid h
  clear h
  go_wp2_with fail
  go_ret
  exact ⟨B', c', us', H.out, by rw [List.length_append]; rfl⟩

set_option maxRecDepth 100000 in
set_option maxHeartbeats 8000000 in
theorem comp_brace {w0 w : World} {I k c : Nat} {l : List Pm.Ins} {B : Option Addr} {us : List Value} {R mc : Nat} {v : Value} {b e : Int} (HIP : Hid (IpAt w0 I l k w B c us)) (hl : l.length ≤ 900) (hR : w.cell? ⟨R, 0, none⟩ = some (ptr I)) (hr : RepPart w0 (· < w0.heap.size) v (.brace b e)) :
    Calls Tryf.prog 38 #[v, sliceAt R 1 mc] w (Compiled w0 I l [.brace b e] k) := by
  obtain ⟨o, hok, rfl, hc0, hc1⟩ := hr
  have ho := HIP.out.ch.cell_some hc0 id
  have ho1 := HIP.out.ch.cell_some hc1 id
  clear hc0 hc1 hok
  have ta127 := tp124_127
  have ta95 := tp124_95
  have ta141 := tp124_141
  have ta133 := tp124_133
  have ta136 := tp124_136
  have ta124 := tp124_124
  have q0 := HIP.out.c0
  have q1 := HIP.out.lt
  have hl0 : (0 : Int) ≤ l.length := Int.natCast_nonneg _
  go_enter Tryf.func38, Tryf.ntmps38
  go_wp2_with fail
  refine creg_brace HIP (by omega) ho ho1 ?_
  intro w' B' c' us' _ _ _ _ _ _ _ _ _ _ _ _ _ _ _ _ _ _ h
  clear q0 q1
  have q0 := h.c0
  have q1 := h.lt
  have H := Lib.hid h
  clear h
  go_wp2_with fail
  go_ret
  exact ⟨B', c', us', H.out, by rw [List.length_append]; rfl⟩

set_option maxRecDepth 100000 in
set_option maxHeartbeats 8000000 in
theorem comp_num {w0 w : World} {I k c : Nat} {l : List Pm.Ins} {B : Option Addr} {us : List Value} {R mc : Nat} {v : Value} {n : Int} (HIP : Hid (IpAt w0 I l k w B c us)) (hl : l.length ≤ 900) (hR : w.cell? ⟨R, 0, none⟩ = some (ptr I)) (hr : RepPart w0 (· < w0.heap.size) v (.num n)) :
    Calls Tryf.prog 38 #[v, sliceAt R 1 mc] w (Compiled w0 I l [.num n] k) := by
  obtain ⟨o, hok, rfl, hc0⟩ := hr
  have ho := HIP.out.ch.cell_some hc0 id
  clear hc0 hok
  have ta127 := tp121_127
  have ta95 := tp121_95
  have ta141 := tp121_141
  have ta133 := tp121_133
  have ta136 := tp121_136
  have ta124 := tp121_124
  have ta121 := tp121_121
  have q0 := HIP.out.c0
  have q1 := HIP.out.lt
  have hl0 : (0 : Int) ≤ l.length := Int.natCast_nonneg _
  go_enter Tryf.func38, Tryf.ntmps38
  go_wp2_with fail
  refine creg_num HIP (by omega) ho ?_
  intro w' B' c' us' _ _ _ _ _ _ _ _ _ _ _ _ _ _ h
  clear q0 q1
  have q0 := h.c0
  have q1 := h.lt
  have H := Lib.hid h
  clear h
  go_wp2_with fail
  go_ret
  exact ⟨B', c', us', H.out, by rw [List.length_append]; rfl⟩

set_option maxRecDepth 100000 in
set_option maxHeartbeats 8000000 in
theorem comp_star {w0 w : World} {I k c : Nat} {l : List Pm.Ins} {B : Option Addr} {us : List Value} {R mc : Nat} {v : Value} {cl : Pm.Cls} (HIP : Hid (IpAt w0 I l k w B c us)) (hl : l.length ≤ 900) (hR : w.cell? ⟨R, 0, none⟩ = some (ptr I)) (hr : RepPart w0 (· < w0.heap.size) v (.rep 42 cl)) :
    Calls Tryf.prog 38 #[v, sliceAt R 1 mc] w (Compiled w0 I l [.split (l.length + 1) (l.length + 3), .chr cl, .jmp l.length] k) := by
  obtain ⟨o, x, hok, rfl, hcell0, hcell, hrc⟩ := hr
  obtain ⟨u, y, rfl⟩ := hrc.form
  have ho0 := HIP.out.ch.cell_some hcell0 id
  have ho := HIP.out.ch.cell_some hcell id
  have HR := Lib.hid hrc
  clear hcell hcell0 hrc hok
  have ta127 := tp141_127
  have ta95 := tp141_95
  have ta141 := tp141_141
  have q0 := HIP.out.c0
  have q1 := HIP.out.lt
  have hl0 : (0 : Int) ≤ l.length := Int.natCast_nonneg _
  go_enter Tryf.func38, Tryf.ntmps38
  go_wp2_with fail
  refine creg_star HIP (by omega) (by omega) ho HR ?_
  intro w' B' c' us' _ _ _ _ _ _ _ _ _ _ _ _ _ _ _ _ _ _ _ _ _ h
  clear q0 q1
  have q0 := h.c0
  have q1 := h.lt
  have H := Lib.hid h
  clear h
  go_wp2_with fail
  go_ret
  exact ⟨B', c', us', H.out, by rw [List.length_append]; rfl⟩

set_option maxRecDepth 100000 in
set_option maxHeartbeats 8000000 in
theorem comp_plus {w0 w : World} {I k c : Nat} {l : List Pm.Ins} {B : Option Addr} {us : List Value} {R mc : Nat} {v : Value} {cl : Pm.Cls} (HIP : Hid (IpAt w0 I l k w B c us)) (hl : l.length ≤ 900) (hR : w.cell? ⟨R, 0, none⟩ = some (ptr I)) (hr : RepPart w0 (· < w0.heap.size) v (.rep 43 cl)) :
    Calls Tryf.prog 38 #[v, sliceAt R 1 mc] w (Compiled w0 I l [.chr cl, .split l.length (l.length + 2)] k) := by
  obtain ⟨o, x, hok, rfl, hcell0, hcell, hrc⟩ := hr
  obtain ⟨u, y, rfl⟩ := hrc.form
  have ho0 := HIP.out.ch.cell_some hcell0 id
  have ho := HIP.out.ch.cell_some hcell id
  have HR := Lib.hid hrc
  clear hcell hcell0 hrc hok
  have ta127 := tp141_127
  have ta95 := tp141_95
  have ta141 := tp141_141
  have q0 := HIP.out.c0
  have q1 := HIP.out.lt
  have hl0 : (0 : Int) ≤ l.length := Int.natCast_nonneg _
  go_enter Tryf.func38, Tryf.ntmps38
  go_wp2_with fail
  refine creg_plus HIP (by omega) (by omega) ho HR ?_
  intro w' B' c' us' _ _ _ _ _ _ _ _ _ _ _ _ _ _ _ _ _ _ h
  clear q0 q1
  have q0 := h.c0
  have q1 := h.lt
  have H := Lib.hid h
  clear h
  go_wp2_with fail
  go_ret
  exact ⟨B', c', us', H.out, by rw [List.length_append]; rfl⟩

set_option maxRecDepth 100000 in
set_option maxHeartbeats 8000000 in
theorem comp_minus {w0 w : World} {I k c : Nat} {l : List Pm.Ins} {B : Option Addr} {us : List Value} {R mc : Nat} {v : Value} {cl : Pm.Cls} (HIP : Hid (IpAt w0 I l k w B c us)) (hl : l.length ≤ 900) (hR : w.cell? ⟨R, 0, none⟩ = some (ptr I)) (hr : RepPart w0 (· < w0.heap.size) v (.rep 45 cl)) :
    Calls Tryf.prog 38 #[v, sliceAt R 1 mc] w (Compiled w0 I l [.split (l.length + 3) (l.length + 1), .chr cl, .jmp l.length] k) := by
  obtain ⟨o, x, hok, rfl, hcell0, hcell, hrc⟩ := hr
  obtain ⟨u, y, rfl⟩ := hrc.form
  have ho0 := HIP.out.ch.cell_some hcell0 id
  have ho := HIP.out.ch.cell_some hcell id
  have HR := Lib.hid hrc
  clear hcell hcell0 hrc hok
  have ta127 := tp141_127
  have ta95 := tp141_95
  have ta141 := tp141_141
  have q0 := HIP.out.c0
  have q1 := HIP.out.lt
  have hl0 : (0 : Int) ≤ l.length := Int.natCast_nonneg _
  go_enter Tryf.func38, Tryf.ntmps38
  go_wp2_with fail
  refine creg_minus HIP (by omega) (by omega) ho HR ?_
  intro w' B' c' us' _ _ _ _ _ _ _ _ _ _ _ _ _ _ _ _ _ _ _ _ _ h
  clear q0 q1
  have q0 := h.c0
  have q1 := h.lt
  have H := Lib.hid h
  clear h
  go_wp2_with fail
  go_ret
  exact ⟨B', c', us', H.out, by rw [List.length_append]; rfl⟩

set_option maxRecDepth 100000 in
set_option maxHeartbeats 8000000 in
theorem comp_opt {w0 w : World} {I k c : Nat} {l : List Pm.Ins} {B : Option Addr} {us : List Value} {R mc : Nat} {v : Value} {cl : Pm.Cls} (HIP : Hid (IpAt w0 I l k w B c us)) (hl : l.length ≤ 900) (hR : w.cell? ⟨R, 0, none⟩ = some (ptr I)) (hr : RepPart w0 (· < w0.heap.size) v (.rep 63 cl)) :
    Calls Tryf.prog 38 #[v, sliceAt R 1 mc] w (Compiled w0 I l [.split (l.length + 1) (l.length + 2), .chr cl] k) := by
  obtain ⟨o, x, hok, rfl, hcell0, hcell, hrc⟩ := hr
  obtain ⟨u, y, rfl⟩ := hrc.form
  have ho0 := HIP.out.ch.cell_some hcell0 id
  have ho := HIP.out.ch.cell_some hcell id
  have HR := Lib.hid hrc
  clear hcell hcell0 hrc hok
  have ta127 := tp141_127
  have ta95 := tp141_95
  have ta141 := tp141_141
  have q0 := HIP.out.c0
  have q1 := HIP.out.lt
  have hl0 : (0 : Int) ≤ l.length := Int.natCast_nonneg _
  go_enter Tryf.func38, Tryf.ntmps38
  go_wp2_with fail
  refine creg_opt HIP (by omega) (by omega) ho HR ?_
  intro w' B' c' us' _ _ _ _ _ _ _ _ _ _ _ _ _ _ _ _ _ _ _ h
  clear q0 q1
  have q0 := h.c0
  have q1 := h.lt
  have H := Lib.hid h
  clear h
  go_wp2_with fail
  go_ret
  exact ⟨B', c', us', H.out, by rw [List.length_append]; rfl⟩

end Go.Proofs.YtkbdngcbifonkaaFmt
