/-
  spec.ptReader: an item of \x01(.+)%1\x02. Lines laid by a program of this session (mkrdr3.py).
-/
import Derived.Test.YtkbdngcbifonkaaFmtRdt
namespace Go.Proofs.YtkbdngcbifonkaaFmt
set_option linter.all false
open Go.RowKit

set_option maxRecDepth 100000 in
set_option maxHeartbeats 4000000 in
theorem item_cap {w0 w : World} {R n c : Nat} {us : List Value} {ds : List (Nat × (Nat → Bool))} {B : Option Addr} (HR : Hid (RdAt w0 R 1 0 (.slice none 0 0) none n us ds w B c)) (hn : n ≤ 100) :
    Calls Tryf.prog 33 #[ptr R] w fun e w' => e = .returned (.bool true) ∧ ∃ g c2 B' c', 1 ≤ c2 ∧ RdAt w0 R 2 1 (.slice (some ⟨g, 0, none⟩) 1 c2) (some g) (n + 1) (us ++ itemCells 2 none 0 0 0 1) ds w' B' c' := by
  have q0 := HR.out.c0
  have q1 := HR.out.c1
  go_enter Tryf.func33, Tryf.ntmps33
  go_wp2_with fail
  go_quiet (fail)
  simp only [Exit.then]
  go_wp2_with fail
  refine (capture_rd (Lib.hid (HR.out.moved ((Ch.refl _ _).drewN _))) hn).mono ?_
  rintro e w1 ⟨rfl, g, c2, B', c', h1, hr⟩
  simp only []
  go_wp2_with fail
  go_ret
  exact ⟨rfl, _, _, B', c', h1, hr⟩

set_option maxRecDepth 100000 in
set_option maxHeartbeats 4000000 in
theorem item_close {w0 w : World} {R n c : Nat} {us : List Value} {ds : List (Nat × (Nat → Bool))} {B : Option Addr} {g c2 : Nat} (HR : Hid (RdAt w0 R 4 1 (.slice (some ⟨g, 0, none⟩) 1 c2) (some g) n us ds w B c)) (hn : n ≤ 100) (hc2 : 1 ≤ c2) :
    Calls Tryf.prog 33 #[ptr R] w fun e w' => e = .returned (.bool true) ∧ ∃ oB oc B' c', RdAt w0 R 5 1 (.slice oB 0 oc) none (n + 1) (us ++ itemCells 3 none 0 0 0 1) ds w' B' c' := by
  have q0 := HR.out.c0
  have q1 := HR.out.c1
  go_enter Tryf.func33, Tryf.ntmps33
  go_wp2_with fail
  go_quiet (fail)
  simp only [Exit.then]
  go_wp2_with fail
  go_quiet (fail)
  simp only [Exit.then]
  go_wp2_with fail
  refine (closing_rd (Lib.hid (HR.out.moved ((Ch.refl _ _).drewN _))) hn hc2).mono ?_
  rintro e w1 ⟨rfl, oB, oc, B', c', hr⟩
  simp only []
  go_wp2_with fail
  go_ret
  exact ⟨rfl, _, _, B', c', hr⟩

set_option maxRecDepth 100000 in
set_option maxHeartbeats 4000000 in
theorem item_back {w0 w : World} {R n c : Nat} {us : List Value} {ds : List (Nat × (Nat → Bool))} {B : Option Addr} {oB : Option Addr} {oc : Nat} (HR : Hid (RdAt w0 R 5 1 (.slice oB 0 oc) none n us ds w B c)) (hn : n ≤ 100) :
    Calls Tryf.prog 33 #[ptr R] w fun e w' => e = .returned (.bool true) ∧ ∃ B' c', RdAt w0 R 7 1 (.slice oB 0 oc) none (n + 1) (us ++ itemCells 5 none 0 0 0 1) ds w' B' c' := by
  have g36 : (((((⟨#[1, 40, 46, 43, 41, 37, 49, 2]⟩ : ByteArray)[5]'(by decide)).toNat : Nat) : Int) == 36) = false := rfl
  have q0 := HR.out.c0
  have q1 := HR.out.c1
  go_enter Tryf.func33, Tryf.ntmps33
  go_wp2_with fail
  go_quiet (fail)
  simp only [Exit.then]
  go_wp2_with fail
  go_quiet (fail)
  simp only [Exit.then]
  go_wp2_with fail
  go_quiet (fail)
  simp only [Exit.then]
  go_wp2_with fail
  refine (special_back (Lib.hid (HR.out.moved ((Ch.refl _ _).drewN _))) hn).mono ?_
  rintro e w1 ⟨rfl, B', c', hr⟩
  simp only []
  go_wp2_with fail
  go_ret
  exact ⟨rfl, B', c', hr⟩

set_option maxRecDepth 100000 in
set_option maxHeartbeats 4000000 in
theorem item_one {w0 w : World} {R n c : Nat} {us : List Value} {ds : List (Nat × (Nat → Bool))} {B : Option Addr} {cp : Nat} {o : Value} {go : Option Nat} (HR : Hid (RdAt w0 R 0 cp o go n us ds w B c)) (hn : n ≤ 100) :
    Calls Tryf.prog 33 #[ptr R] w fun e w' => e = .returned (.bool true) ∧ ∃ D B' c', RdAt w0 R 1 cp o go (n + 1) (us ++ itemCells 1 (some ⟨D, 0, none⟩) 128 128 32 0) ((D, (fun i => decide (i = 1))) :: ds) w' B' c' := by
  have HS : Hid (∀ w1, Calls Tryf.prog 45 #[.string ⟨#[1, 40, 46, 43, 41, 37, 49, 2]⟩, .int .i64 ((0 : Nat) : Int)] w1 (SglPost w1 1 (fun i => decide (i = 1)))) := Lib.hid fun w1 => single_byte (k := 0) (b := 1) (by decide) (by decide) rfl (by decide) rfl rfl rfl rfl rfl rfl rfl rfl
  have g36 : (((((⟨#[1, 40, 46, 43, 41, 37, 49, 2]⟩ : ByteArray)[0]'(by decide)).toNat : Nat) : Int) == 36) = false := rfl
  have q0 := HR.out.c0
  have q1 := HR.out.c1
  go_enter Tryf.func33, Tryf.ntmps33
  go_wp2_with fail
  go_quiet (fail)
  simp only [Exit.then]
  go_wp2_with fail
  go_quiet (fail)
  simp only [Exit.then]
  go_wp2_with fail
  go_quiet (fail)
  simp only [Exit.then]
  go_wp2_with fail
  refine (special_no (k := 0) (b := 1) (Lib.hid (HR.out.moved ((Ch.refl _ _).drewN _))) (by decide) rfl (by decide)).mono ?_
  rintro e w1 ⟨rfl, hch⟩
  have hr1 := HR.out.moved (((Ch.refl _ _).drewN _).trans hch)
  have HR1 := Lib.hid hr1
  clear hch hr1 q0 q1 HR
  simp only []
  go_wp2_with fail
  refine sgl_reg HR1 HS ?_
  intro w2 D _ _ _ _ _ _ _ _ _ _ _ _ _ hr2
  have q0 := hr2.c0
  have q1 := hr2.c1
  have q2 := hr2.lt
  have HR2 := Lib.hid hr2
  clear hr2 HR1
  simp only [Exit.then]
  go_wp2_with fail
  refine put_reg (k := 0) (far := 1) (bh := 1) (X := w2.heap.size) (Lib.hid (HR2.out.moved ((Ch.refl _ _).alloc _))) hn (by decide) (by decide) rfl (World.cell?_alloc_at _ _ _ _ rfl) (World.cell?_alloc_at _ _ _ _ rfl) (World.cell?_alloc_at _ _ _ _ rfl) (World.cell?_alloc_at _ _ _ _ rfl) (World.cell?_alloc_at _ _ _ _ rfl) (World.cell?_alloc_at _ _ _ _ rfl) ?_
  intro w3 B3 c3 _ _ _ _ _ _ _ _ _ hr3
  have HR3 := Lib.hid hr3
  clear hr3
  simp only [Exit.then]
  go_wp2_with fail
  go_ret
  exact ⟨rfl, D, _, _, HR3.out⟩

set_option maxRecDepth 100000 in
set_option maxHeartbeats 4000000 in
theorem item_dot {w0 w : World} {R n c : Nat} {us : List Value} {ds : List (Nat × (Nat → Bool))} {B : Option Addr} {cp : Nat} {o : Value} {go : Option Nat} (HR : Hid (RdAt w0 R 2 cp o go n us ds w B c)) (hn : n ≤ 100) :
    Calls Tryf.prog 33 #[ptr R] w fun e w' => e = .returned (.bool true) ∧ ∃ D B' c', RdAt w0 R 4 cp o go (n + 1) (us ++ itemCells 1 (some ⟨D, 0, none⟩) 128 128 43 0) ((D, (fun _ => true)) :: ds) w' B' c' := by
  have hv3 : ((((⟨#[1, 40, 46, 43, 41, 37, 49, 2]⟩ : ByteArray)[3]'(by decide)).toNat : Nat) : Int) = 43 := rfl
  have HS : Hid (∀ w1, Calls Tryf.prog 45 #[.string ⟨#[1, 40, 46, 43, 41, 37, 49, 2]⟩, .int .i64 ((2 : Nat) : Int)] w1 (SglPost w1 3 (fun _ => true))) := Lib.hid fun w1 => single_dot (k := 2) (by decide) (by decide) rfl
  have g36 : (((((⟨#[1, 40, 46, 43, 41, 37, 49, 2]⟩ : ByteArray)[2]'(by decide)).toNat : Nat) : Int) == 36) = false := rfl
  have q0 := HR.out.c0
  have q1 := HR.out.c1
  go_enter Tryf.func33, Tryf.ntmps33
  go_wp2_with fail
  go_quiet (fail)
  simp only [Exit.then]
  go_wp2_with fail
  go_quiet (fail)
  simp only [Exit.then]
  go_wp2_with fail
  go_quiet (fail)
  simp only [Exit.then]
  go_wp2_with fail
  refine (special_no (k := 2) (b := 46) (Lib.hid (HR.out.moved ((Ch.refl _ _).drewN _))) (by decide) rfl (by decide)).mono ?_
  rintro e w1 ⟨rfl, hch⟩
  have hr1 := HR.out.moved (((Ch.refl _ _).drewN _).trans hch)
  have HR1 := Lib.hid hr1
  clear hch hr1 q0 q1 HR
  simp only []
  go_wp2_with fail
  refine sgl_reg HR1 HS ?_
  intro w2 D _ _ _ _ _ _ _ _ _ _ _ _ _ hr2
  have q0 := hr2.c0
  have q1 := hr2.c1
  have q2 := hr2.lt
  have HR2 := Lib.hid hr2
  clear hr2 HR1
  simp only [Exit.then]
  go_wp2_with fail
  refine put_reg (k := 2) (far := 2) (bh := 4) (X := w2.heap.size) (Lib.hid (HR2.out.moved ((Ch.refl _ _).alloc _))) hn (by decide) (by decide) rfl (World.cell?_alloc_at _ _ _ _ rfl) (World.cell?_alloc_at _ _ _ _ rfl) (World.cell?_alloc_at _ _ _ _ rfl) (World.cell?_alloc_at _ _ _ _ rfl) (World.cell?_alloc_at _ _ _ _ rfl) (World.cell?_alloc_at _ _ _ _ rfl) ?_
  intro w3 B3 c3 _ _ _ _ _ _ _ _ _ hr3
  have HR3 := Lib.hid hr3
  clear hr3
  simp only [Exit.then]
  go_wp2_with fail
  go_ret
  exact ⟨rfl, D, _, _, HR3.out⟩

set_option maxRecDepth 100000 in
set_option maxHeartbeats 4000000 in
theorem item_two {w0 w : World} {R n c : Nat} {us : List Value} {ds : List (Nat × (Nat → Bool))} {B : Option Addr} {cp : Nat} {o : Value} {go : Option Nat} (HR : Hid (RdAt w0 R 7 cp o go n us ds w B c)) (hn : n ≤ 100) :
    Calls Tryf.prog 33 #[ptr R] w fun e w' => e = .returned (.bool true) ∧ ∃ D B' c', RdAt w0 R 8 cp o go (n + 1) (us ++ itemCells 1 (some ⟨D, 0, none⟩) 128 128 32 0) ((D, (fun i => decide (i = 2))) :: ds) w' B' c' := by
  have HS : Hid (∀ w1, Calls Tryf.prog 45 #[.string ⟨#[1, 40, 46, 43, 41, 37, 49, 2]⟩, .int .i64 ((7 : Nat) : Int)] w1 (SglPost w1 8 (fun i => decide (i = 2)))) := Lib.hid fun w1 => single_byte (k := 7) (b := 2) (by decide) (by decide) rfl (by decide) rfl rfl rfl rfl rfl rfl rfl rfl
  have g36 : (((((⟨#[1, 40, 46, 43, 41, 37, 49, 2]⟩ : ByteArray)[7]'(by decide)).toNat : Nat) : Int) == 36) = false := rfl
  have q0 := HR.out.c0
  have q1 := HR.out.c1
  go_enter Tryf.func33, Tryf.ntmps33
  go_wp2_with fail
  go_quiet (fail)
  simp only [Exit.then]
  go_wp2_with fail
  go_quiet (fail)
  simp only [Exit.then]
  go_wp2_with fail
  go_quiet (fail)
  simp only [Exit.then]
  go_wp2_with fail
  refine (special_no (k := 7) (b := 2) (Lib.hid (HR.out.moved ((Ch.refl _ _).drewN _))) (by decide) rfl (by decide)).mono ?_
  rintro e w1 ⟨rfl, hch⟩
  have hr1 := HR.out.moved (((Ch.refl _ _).drewN _).trans hch)
  have HR1 := Lib.hid hr1
  clear hch hr1 q0 q1 HR
  simp only []
  go_wp2_with fail
  refine sgl_reg HR1 HS ?_
  intro w2 D _ _ _ _ _ _ _ _ _ _ _ _ _ hr2
  have q0 := hr2.c0
  have q1 := hr2.c1
  have q2 := hr2.lt
  have HR2 := Lib.hid hr2
  clear hr2 HR1
  simp only [Exit.then]
  go_wp2_with fail
  refine put_reg (k := 7) (far := 1) (bh := 8) (X := w2.heap.size) (Lib.hid (HR2.out.moved ((Ch.refl _ _).alloc _))) hn (by decide) (by decide) rfl (World.cell?_alloc_at _ _ _ _ rfl) (World.cell?_alloc_at _ _ _ _ rfl) (World.cell?_alloc_at _ _ _ _ rfl) (World.cell?_alloc_at _ _ _ _ rfl) (World.cell?_alloc_at _ _ _ _ rfl) (World.cell?_alloc_at _ _ _ _ rfl) ?_
  intro w3 B3 c3 _ _ _ _ _ _ _ _ _ hr3
  have HR3 := Lib.hid hr3
  clear hr3
  simp only [Exit.then]
  go_wp2_with fail
  go_ret
  exact ⟨rfl, D, _, _, HR3.out⟩

end Go.Proofs.YtkbdngcbifonkaaFmt
