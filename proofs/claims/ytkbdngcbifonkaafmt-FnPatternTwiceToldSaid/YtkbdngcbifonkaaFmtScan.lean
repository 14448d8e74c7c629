/-
  THE SCANNER OF PATTERNS: Next, Peek, Save, Restore, as one place in a list of bytes that moves on. The walks of its methods.
-/
import Derived.Test.YtkbdngcbifonkaaFmtProg
import Derived.Test.YtkbdngcbifonkaaFmtMem
import Derived.BigQuiet
import Derived.Deep.QuietTactic
namespace Go.Proofs.YtkbdngcbifonkaaFmt
set_option linter.all false
open Go.RowKit

theorem nextPos_eof (S : Nat) (w : World)
    (h1 : w.cell? ⟨S, 1, none⟩ = some (.int .i64 (-1))) :
    Calls Tryf.prog 56 #[.pointer (some ⟨S, 0, none⟩)] w fun e w' => e = .returned (.int .i64 (-1)) ∧ ∃ n, w' = w.drewN n := by
  go_enter Tryf.func56, Tryf.ntmps56
  go_wp2_with fail
  go_quiet (fail)
  go_wp2
  go_ret
  exact ⟨rfl, _, rfl⟩

theorem nextPos_last (S : Nat) (a : Option Addr) (n cap : Nat) (p : Int) (w : World)
    (h0 : w.cell? ⟨S, 0, none⟩ = some (.slice a n cap))
    (h1 : w.cell? ⟨S, 1, none⟩ = some (.int .i64 p)) (hn : (n : Int) - 1 ≤ p) (hm : n ≤ 1000000) (g1 : (p == -1) = false) :
    Calls Tryf.prog 56 #[.pointer (some ⟨S, 0, none⟩)] w fun e w' => e = .returned (.int .i64 (-1)) ∧ ∃ n, w' = w.drewN n := by
  go_enter Tryf.func56, Tryf.ntmps56
  go_wp2_with fail
  go_quiet (fail)
  go_wp2
  go_ret
  exact ⟨rfl, _, rfl⟩

theorem nextPos_go (S : Nat) (a : Option Addr) (n cap : Nat) (p : Int) (w : World)
    (h0 : w.cell? ⟨S, 0, none⟩ = some (.slice a n cap))
    (h1 : w.cell? ⟨S, 1, none⟩ = some (.int .i64 p)) (h2 : w.cell? ⟨S, 2, none⟩ = some (.bool true)) (hp : 0 ≤ p) (hn : p < (n : Int) - 1) (hm : n ≤ 1000000) (g1 : (p == -1) = false) (g2 : decide ((n : Int) - 1 ≤ p) = false) :
    Calls Tryf.prog 56 #[.pointer (some ⟨S, 0, none⟩)] w fun e w' => e = .returned (.int .i64 (p + 1)) ∧ ∃ n, w' = w.drewN n := by
  go_enter Tryf.func56, Tryf.ntmps56
  go_wp2_with fail
  go_quiet (fail)
  go_wp2
  go_ret
  exact ⟨rfl, _, rfl⟩

theorem beq_no {a b : Int} (h : a ≠ b) : (a == b) = false := by simpa using h

/-- The scanner at block S was moved to place p. -/
structure Moved (S : Nat) (p : Int) (b : Bool) (w w' : World) : Prop where
  ch : Ch (· = S) w w'
  size : w'.heap.size = w.heap.size
  c0 : w'.cell? ⟨S, 0, none⟩ = w.cell? ⟨S, 0, none⟩
  c1 : w'.cell? ⟨S, 1, none⟩ = some (.int .i64 p)
  c2 : w'.cell? ⟨S, 2, none⟩ = some (.bool b)
  c3 : w'.cell? ⟨S, 3, none⟩ = w.cell? ⟨S, 3, none⟩
  c4 : w'.cell? ⟨S, 4, none⟩ = w.cell? ⟨S, 4, none⟩
  fz : ∀ i, w'.frozen? ⟨S, i, none⟩ = w.frozen? ⟨S, i, none⟩

theorem Moved.drew {S : Nat} {p : Int} {b : Bool} {w w' : World} (h : Moved S p b w w') : Moved S p b w w'.drew := ⟨h.ch.drew, h.size, h.c0, h.c1, h.c2, h.c3, h.c4, h.fz⟩
theorem Moved.drewN {S : Nat} {p : Int} {b : Bool} {w w' : World} (h : Moved S p b w w') (n : Nat) : Moved S p b w (w'.drewN n) := ⟨h.ch.drewN n, h.size, h.c0, h.c1, h.c2, h.c3, h.c4, h.fz⟩
theorem Moved.start {S : Nat} {p : Int} {b : Bool} {w : World} (h1 : w.cell? ⟨S, 1, none⟩ = some (.int .i64 p)) (h2 : w.cell? ⟨S, 2, none⟩ = some (.bool b)) : Moved S p b w w := ⟨.refl _ _, rfl, rfl, h1, h2, rfl, rfl, fun _ => rfl⟩
theorem addr_ne {S i j : Nat} (h : i ≠ j) : (⟨S, i, none⟩ : Addr) ≠ ⟨S, j, none⟩ := fun e => h (by injection e)

theorem Moved.pos {S : Nat} {p q : Int} {b : Bool} {w w' : World} (h : Moved S p b w w') : Moved S q b w (w'.setCell ⟨S, 1, none⟩ (.int .i64 q)) :=
  ⟨h.ch.setCell (fun _ => rfl) _, by simp [h.size], by rw [World.cell?_setCell_other w' _ _ _ (addr_ne (by decide))]; exact h.c0,
    World.cell?_setCell_same w' _ _ h.c1, by rw [World.cell?_setCell_other w' _ _ _ (addr_ne (by decide))]; exact h.c2,
    by rw [World.cell?_setCell_other w' _ _ _ (addr_ne (by decide))]; exact h.c3, by rw [World.cell?_setCell_other w' _ _ _ (addr_ne (by decide))]; exact h.c4, fun i => by simp [h.fz]⟩
theorem Moved.on {S : Nat} {p : Int} {b c : Bool} {w w' : World} (h : Moved S p b w w') : Moved S p c w (w'.setCell ⟨S, 2, none⟩ (.bool c)) :=
  ⟨h.ch.setCell (fun _ => rfl) _, by simp [h.size], by rw [World.cell?_setCell_other w' _ _ _ (addr_ne (by decide))]; exact h.c0,
    by rw [World.cell?_setCell_other w' _ _ _ (addr_ne (by decide))]; exact h.c1, World.cell?_setCell_same w' _ _ h.c2,
    by rw [World.cell?_setCell_other w' _ _ _ (addr_ne (by decide))]; exact h.c3, by rw [World.cell?_setCell_other w' _ _ _ (addr_ne (by decide))]; exact h.c4, fun i => by simp [h.fz]⟩

theorem next_first (S A n cap : Nat) (b : Int) (w : World)
    (h0 : w.cell? ⟨S, 0, none⟩ = some (.slice (some ⟨A, 0, none⟩) n cap))
    (h1 : w.cell? ⟨S, 1, none⟩ = some (.int .i64 0)) (h2 : w.cell? ⟨S, 2, none⟩ = some (.bool false))
    (f1 : w.frozen? ⟨S, 1, none⟩ = false) (f2 : w.frozen? ⟨S, 2, none⟩ = false) (hA : ¬ A = S) (hA' : ¬ S = A) (hn : (0 : Int) < n) (hm : n ≤ 1000000) (hb : w.cell? ⟨A, 0, none⟩ = some (.int .u8 b)) (hb0 : 0 ≤ b) (hb1 : b ≤ 255) (g0 : ((n : Int) == 0) = false) :
    Calls Tryf.prog 50 #[.pointer (some ⟨S, 0, none⟩)] w fun e w' => e = .returned (.int .i64 b) ∧ Moved S 0 true w w' := by
  go_enter Tryf.func50, Tryf.ntmps50
  go_wp2_with fail
  go_quiet (fail)
  go_wp2
  go_ret
  exact ⟨rfl, ((Moved.start h1 h2).on).drewN _⟩

theorem next_empty (S : Nat) (a : Option Addr) (cap : Nat) (w : World)
    (h0 : w.cell? ⟨S, 0, none⟩ = some (.slice a 0 cap))
    (h1 : w.cell? ⟨S, 1, none⟩ = some (.int .i64 0)) (h2 : w.cell? ⟨S, 2, none⟩ = some (.bool false))
    (f1 : w.frozen? ⟨S, 1, none⟩ = false) (f2 : w.frozen? ⟨S, 2, none⟩ = false) :
    Calls Tryf.prog 50 #[.pointer (some ⟨S, 0, none⟩)] w fun e w' => e = .returned (.int .i64 (-1)) ∧ Moved S (-1) true w w' := by
  go_enter Tryf.func50, Tryf.ntmps50
  go_wp2_with fail
  go_ret
  exact ⟨rfl, ((Moved.start h1 h2).on).pos⟩

theorem next_mid (S A n cap k : Nat) (b : Int) (w : World)
    (h0 : w.cell? ⟨S, 0, none⟩ = some (.slice (some ⟨A, 0, none⟩) n cap))
    (h1 : w.cell? ⟨S, 1, none⟩ = some (.int .i64 k)) (h2 : w.cell? ⟨S, 2, none⟩ = some (.bool true))
    (f1 : w.frozen? ⟨S, 1, none⟩ = false) (hA : ¬ A = S) (hA' : ¬ S = A) (hn : (k : Int) < (n : Int) - 1) (hm : n ≤ 1000000) (hb : w.cell? ⟨A, k + 1, none⟩ = some (.int .u8 b)) (hb0 : 0 ≤ b) (hb1 : b ≤ 255)
    (g1 : ((k : Int) == -1) = false) (g2 : decide ((n : Int) - 1 ≤ k) = false) (g3 : ((k : Int) + 1 == -1) = false) :
    Calls Tryf.prog 50 #[.pointer (some ⟨S, 0, none⟩)] w fun e w' => e = .returned (.int .i64 b) ∧ Moved S (k + 1) true w w' := by
  have hk0 : (0 : Int) ≤ k := Int.natCast_nonneg _
  go_enter Tryf.func50, Tryf.ntmps50
  go_wp2_with (go_at_call 56; refine (nextPos_go S _ n cap k _ h0 h1 h2 hk0 hn hm g1 g2).mono ?_; rintro e w' ⟨rfl, nq, rfl⟩)
  go_quiet (fail)
  go_wp2
  go_ret
  exact ⟨rfl, (((Moved.start h1 h2).drewN _).pos).drewN _⟩

theorem next_last (S A n cap k : Nat) (w : World)
    (h0 : w.cell? ⟨S, 0, none⟩ = some (.slice (some ⟨A, 0, none⟩) n cap))
    (h1 : w.cell? ⟨S, 1, none⟩ = some (.int .i64 k)) (h2 : w.cell? ⟨S, 2, none⟩ = some (.bool true))
    (f1 : w.frozen? ⟨S, 1, none⟩ = false) (hn : (n : Int) - 1 ≤ k) (hm : n ≤ 1000000) (g1 : ((k : Int) == -1) = false) :
    Calls Tryf.prog 50 #[.pointer (some ⟨S, 0, none⟩)] w fun e w' => e = .returned (.int .i64 (-1)) ∧ Moved S (-1) true w w' := by
  go_enter Tryf.func50, Tryf.ntmps50
  go_wp2_with (go_at_call 56; refine (nextPos_last S _ n cap k _ h0 h1 hn hm g1).mono ?_; rintro e w' ⟨rfl, nq, rfl⟩)
  go_ret
  exact ⟨rfl, ((Moved.start h1 h2).drewN _).pos⟩

theorem next_eof (S : Nat) (w : World)
    (h1 : w.cell? ⟨S, 1, none⟩ = some (.int .i64 (-1))) (h2 : w.cell? ⟨S, 2, none⟩ = some (.bool true))
    (f1 : w.frozen? ⟨S, 1, none⟩ = false) :
    Calls Tryf.prog 50 #[.pointer (some ⟨S, 0, none⟩)] w fun e w' => e = .returned (.int .i64 (-1)) ∧ Moved S (-1) true w w' := by
  go_enter Tryf.func50, Tryf.ntmps50
  go_wp2_with (go_at_call 56; refine (nextPos_eof S _ h1).mono ?_; rintro e w' ⟨rfl, nq, rfl⟩)
  go_ret
  exact ⟨rfl, ((Moved.start h1 h2).drewN _).pos⟩

/-- Where the scanner's position stands when k bytes of n have been taken; n + 1: behind the end. -/
def scPos (n k : Nat) : Int := if n < k then -1 else if k = 0 then 0 else (k : Int) - 1
def scOn (k : Nat) : Bool := decide (0 < k)

/-- The scanner at block S, over the bytes l at block A, has taken k of them; it has kept place j. -/
structure Scan (w : World) (S A cap : Nat) (l : List UInt8) (k j : Nat) : Prop where
  c0 : w.cell? ⟨S, 0, none⟩ = some (.slice (some ⟨A, 0, none⟩) l.length cap)
  c1 : w.cell? ⟨S, 1, none⟩ = some (.int .i64 (scPos l.length k))
  c2 : w.cell? ⟨S, 2, none⟩ = some (.bool (scOn k))
  c3 : w.cell? ⟨S, 3, none⟩ = some (.int .i64 (scPos l.length j))
  c4 : w.cell? ⟨S, 4, none⟩ = some (.bool (scOn j))
  fz : ∀ i, i < 5 → w.frozen? ⟨S, i, none⟩ = false
  ne : ¬ A = S
  len : l.length ≤ 100000
  byte : ∀ i (h : i < l.length), w.cell? ⟨A, i, none⟩ = some (.int .u8 (l[i].toNat : Int))

theorem Scan.moved {w w' : World} {S A cap k j k' : Nat} {l : List UInt8} (h : Scan w S A cap l k j) (m : Moved S (scPos l.length k') (scOn k') w w') : Scan w' S A cap l k' j where
  c0 := m.c0.trans h.c0
  c1 := m.c1
  c2 := m.c2
  c3 := m.c3.trans h.c3
  c4 := m.c4.trans h.c4
  fz i hi := (m.fz i).trans (h.fz i hi)
  ne := h.ne
  len := h.len
  byte i hi := m.ch.cell_some (h.byte i hi) h.ne

theorem Scan.moved' {w w' : World} {S A cap k j k' : Nat} {l : List UInt8} {p : Int} {b : Bool} (h : Scan w S A cap l k j) (m : Moved S p b w w') (hp : p = scPos l.length k') (hb : b = scOn k') : Scan w' S A cap l k' j :=
  h.moved (by subst hp; subst hb; exact m)

theorem Scan.kept {w w' : World} {S A cap k j : Nat} {l : List UInt8} {T : Nat → Prop} (h : Scan w S A cap l k j) (m : Ch T w w') (hS : ¬ T S) (hA : ¬ T A) : Scan w' S A cap l k j where
  c0 := m.cell_some h.c0 hS
  c1 := m.cell_some h.c1 hS
  c2 := m.cell_some h.c2 hS
  c3 := m.cell_some h.c3 hS
  c4 := m.cell_some h.c4 hS
  fz i hi := (m.frozen (p := ⟨S, i, none⟩) (World.block_lt_of_cell? w ⟨S, 0, none⟩ h.c0) hS).trans (h.fz i hi)
  ne := h.ne
  len := h.len
  byte i hi := m.cell_some (h.byte i hi) hA

/-- What the scanner gives at place k. -/
def at_ (l : List UInt8) (k : Nat) : Int := if h : k < l.length then (l[k].toNat : Int) else -1
/-- Where it stands behind that. -/
def after (l : List UInt8) (k : Nat) : Nat := min (k + 1) (l.length + 1)

/-- A call of a method of the scanner at S: it gives r, and the scanner stands at k, j. -/
def Gives (S A cap : Nat) (l : List UInt8) (k j : Nat) (r : Value) (w : World) (e : Ending) (w' : World) : Prop :=
  e = .returned r ∧ Scan w' S A cap l k j ∧ Ch (· = S) w w' ∧ w'.heap.size = w.heap.size

theorem Moved.gives {S A cap k k' j : Nat} {l : List UInt8} {p : Int} {b : Bool} {w w' : World} {e : Ending} {r : Value} (m : Moved S p b w w') (h : Scan w S A cap l k j) (he : e = .returned r) (hp : p = scPos l.length k') (hb : b = scOn k') : Gives S A cap l k' j r w e w' :=
  ⟨he, h.moved (by subst hp; subst hb; exact m), m.ch, m.size⟩

theorem scan_next {w : World} {S A cap k j : Nat} {l : List UInt8} (h : Scan w S A cap l k j) (hk : k ≤ l.length + 1) :
    Calls Tryf.prog 50 #[.pointer (some ⟨S, 0, none⟩)] w (Gives S A cap l (after l k) j (.int .i64 (at_ l k)) w) := by
  have hlen := h.len
  by_cases hlt : k < l.length
  · have hb := h.byte k hlt
    have hb1 : (l[k].toNat : Int) ≤ 255 := by have := UInt8.toNat_lt l[k]; omega
    have hat : at_ l k = (l[k].toNat : Int) := by simp [at_, hlt]
    have haf : after l k = k + 1 := by simp only [after]; omega
    rw [hat, haf]
    rcases Nat.eq_zero_or_pos k with rfl | hpos
    · refine (next_first S A l.length cap _ w h.c0 ?_ ?_ (h.fz 1 (by omega)) (h.fz 2 (by omega)) h.ne (fun e => h.ne e.symm) (by omega) (by omega) hb (by omega) hb1 (beq_no (by omega))).mono ?_
      · simpa [scPos] using h.c1
      · simpa [scOn] using h.c2
      · rintro e w' ⟨he, m⟩
        exact m.gives h he (by simp only [scPos]; rw [if_neg (by omega), if_neg (by omega)]; omega) rfl
    · obtain ⟨i, rfl⟩ : ∃ i, k = i + 1 := ⟨k - 1, by omega⟩
      refine (next_mid S A l.length cap i _ w h.c0 ?_ ?_ (h.fz 1 (by omega)) h.ne (fun e => h.ne e.symm) (by omega) (by omega) hb (by omega) hb1 (beq_no (by omega)) (decide_eq_false (by omega)) (beq_no (by omega))).mono ?_
      · have := h.c1; simp only [scPos] at this; rw [if_neg (by omega), if_neg (by omega)] at this; rw [this]; congr 2; simp
      · simpa [scOn] using h.c2
      · rintro e w' ⟨he, m⟩
        exact m.gives h he (by simp only [scPos]; rw [if_neg (by omega), if_neg (by omega)]; omega) (by simp [scOn])
  · have hat : at_ l k = -1 := by simp [at_, hlt]
    have haf : after l k = l.length + 1 := by simp only [after]; omega
    rw [hat, haf]
    have hp : (-1 : Int) = scPos l.length (l.length + 1) := by simp [scPos]
    by_cases he : k = l.length + 1
    · subst he
      refine (next_eof S w ?_ ?_ (h.fz 1 (by omega))).mono ?_
      · simpa [scPos] using h.c1
      · simpa [scOn] using h.c2
      · rintro e w' ⟨he, m⟩
        exact m.gives h he hp (by simp [scOn])
    · have hk' : k = l.length := by omega
      rcases Nat.eq_zero_or_pos k with h0 | hpos
      · have hl0 : l.length = 0 := by omega
        have hc := h.c0
        rw [hl0] at hc
        refine (next_empty S _ cap w hc ?_ ?_ (h.fz 1 (by omega)) (h.fz 2 (by omega))).mono ?_
        · have := h.c1; simpa [scPos, h0] using this
        · have := h.c2; simpa [scOn, h0] using this
        · rintro e w' ⟨he, m⟩
          exact m.gives h he hp (by simp [scOn])
      · obtain ⟨i, rfl⟩ : ∃ i, k = i + 1 := ⟨k - 1, by omega⟩
        refine (next_last S A l.length cap i w h.c0 ?_ ?_ (h.fz 1 (by omega)) (by omega) (by omega) (beq_no (by omega))).mono ?_
        · have := h.c1; simp only [scPos] at this; rw [if_neg (by omega), if_neg (by omega)] at this; rw [this]; congr 2; simp
        · simpa [scOn] using h.c2
        · rintro e w' ⟨he, m⟩
          exact m.gives h he hp (by simp [scOn])

/-- Where the scanner stands behind a look at what comes next. -/
def seen (l : List UInt8) (k : Nat) : Nat := if l.length = 0 then 1 else k

theorem peek_eof {w : World} {S A cap j : Nat} {l : List UInt8} (h : Scan w S A cap l (l.length + 1) j) :
    Calls Tryf.prog 49 #[.pointer (some ⟨S, 0, none⟩)] w (Gives S A cap l (l.length + 1) j (.int .i64 (-1)) w) := by
  have h1 : w.cell? ⟨S, 1, none⟩ = some (.int .i64 (-1)) := by have := h.c1; simpa [scPos] using this
  go_enter Tryf.func49, Tryf.ntmps49
  go_wp2_with fail
  refine (scan_next h (by omega)).mono ?_
  rintro e w1 ⟨rfl, hs, hc, hz⟩
  have hat : at_ l (l.length + 1) = -1 := by simp [at_]
  have haf : after l (l.length + 1) = l.length + 1 := by simp only [after]; omega
  rw [hat]
  rw [haf] at hs
  clear hat haf
  have HS := Lib.hid hs
  have HZ := Lib.hid hz
  clear hs hz
  go_wp2
  go_ret
  exact ⟨rfl, HS.out, hc, HZ.out⟩

theorem peek_end {w : World} {S A cap j : Nat} {l : List UInt8} (h : Scan w S A cap l l.length j) :
    Calls Tryf.prog 49 #[.pointer (some ⟨S, 0, none⟩)] w (Gives S A cap l (seen l l.length) j (.int .i64 (-1)) w) := by
  have hp : ¬ scPos l.length l.length = -1 := by simp only [scPos]; split <;> (try split) <;> omega
  have hlen := h.len
  have h1 := h.c1
  have hp' := beq_no hp
  go_enter Tryf.func49, Tryf.ntmps49
  go_wp2_with fail
  refine (scan_next h (by omega)).mono ?_
  rintro e w1 ⟨rfl, hs, hc, hz⟩
  have hat : at_ l l.length = -1 := by simp [at_]
  have haf : after l l.length = l.length + 1 := by simp only [after]; omega
  rw [hat]
  rw [haf] at hs
  clear hat haf h h1 hp hp'
  have q0 := hs.c0
  have q1 : w1.cell? ⟨S, 1, none⟩ = some (.int .i64 (-1)) := by have := hs.c1; simpa [scPos] using this
  have q2 := hs.c2
  have f1 := hs.fz 1 (by omega)
  have HS := Lib.hid hs
  have HZ := Lib.hid hz
  clear hs hz
  go_wp2
  go_ret
  have m : Moved S ((l.length : Int) - 1) (scOn (l.length + 1)) w1 (w1.setCell ⟨S, 1, none⟩ (.int .i64 ((l.length : Int) - 1))) := (Moved.start q1 q2).pos
  have hsn : l.length = 0 ∧ seen l l.length = 1 ∨ 0 < l.length ∧ seen l l.length = l.length := by unfold seen; split <;> omega
  refine ⟨rfl, HS.out.moved' m ?_ ?_, hc.trans m.ch, m.size.trans HZ.out⟩
  · rcases hsn with ⟨h0, h1⟩ | ⟨h0, h1⟩ <;> rw [h1] <;> simp only [scPos] <;> (try split) <;> (try split) <;> omega
  · rcases hsn with ⟨h0, h1⟩ | ⟨h0, h1⟩ <;> rw [h1] <;> simp [scOn, h0]

theorem peek_byte {w : World} {S A cap k j : Nat} {l : List UInt8} (h : Scan w S A cap l k j) (hk : k < l.length) :
    Calls Tryf.prog 49 #[.pointer (some ⟨S, 0, none⟩)] w (Gives S A cap l k j (.int .i64 (at_ l k)) w) := by
  have hp : ¬ scPos l.length k = -1 := by simp only [scPos]; split <;> (try split) <;> omega
  have hlen := h.len
  have h1 := h.c1
  have hp' := beq_no hp
  go_enter Tryf.func49, Tryf.ntmps49
  go_wp2_with fail
  refine (scan_next h (by omega)).mono ?_
  rintro e w1 ⟨rfl, hs, hc, hz⟩
  have haf : after l k = k + 1 := by simp only [after]; omega
  rw [haf] at hs
  clear haf h h1 hp hp'
  have q0 := hs.c0
  have q1 : w1.cell? ⟨S, 1, none⟩ = some (.int .i64 k) := by
    have := hs.c1; simp only [scPos] at this; rw [if_neg (by omega), if_neg (by omega)] at this; rw [this]; congr 2; simp
  have q2 := hs.c2
  have f1 := hs.fz 1 (by omega)
  have f2 := hs.fz 2 (by omega)
  have HS := Lib.hid hs
  have HZ := Lib.hid hz
  clear hs hz
  have hk0 : (0 : Int) ≤ k := Int.natCast_nonneg _
  have g1 : ((k : Int) == -1) = false := beq_no (by omega)
  rcases Nat.eq_zero_or_pos k with h0 | hpos
  · subst h0
    go_wp2
    go_ret
    have m : Moved S 0 false w1 _ := (((Moved.start q1 q2).pos (q := (0 : Int) - 1)).pos (q := 0)).on (c := false)
    exact ⟨rfl, HS.out.moved' m rfl rfl, hc.trans m.ch, m.size.trans HZ.out⟩
  · have hn : ¬ (k : Int) - 1 < 0 := by omega
    go_wp2
    go_ret
    have m : Moved S ((k : Int) - 1) (scOn (k + 1)) w1 _ := (Moved.start q1 q2).pos
    exact ⟨rfl, HS.out.moved' m (by simp only [scPos]; rw [if_neg (by omega), if_neg (by omega)]) (by simp [scOn, hpos]), hc.trans m.ch, m.size.trans HZ.out⟩

/-- A look at what comes next. -/
theorem scan_peek {w : World} {S A cap k j : Nat} {l : List UInt8} (h : Scan w S A cap l k j) (hk : k ≤ l.length + 1) :
    Calls Tryf.prog 49 #[.pointer (some ⟨S, 0, none⟩)] w (Gives S A cap l (seen l k) j (.int .i64 (at_ l k)) w) := by
  rcases Nat.lt_or_ge k l.length with hlt | hge
  · have : seen l k = k := by unfold seen; rw [if_neg (by omega)]
    rw [this]
    exact peek_byte h hlt
  · have hat : at_ l k = -1 := by simp [at_]; omega
    rw [hat]
    rcases Nat.lt_or_ge l.length k with hlt | hge'
    · obtain rfl : k = l.length + 1 := by omega
      have : seen l (l.length + 1) = l.length + 1 := by unfold seen; split <;> omega
      rw [this]
      exact peek_eof h
    · obtain rfl : k = l.length := by omega
      exact peek_end h

theorem save_raw (S : Nat) (p p' : Int) (b b' : Bool) (w : World)
    (h1 : w.cell? ⟨S, 1, none⟩ = some (.int .i64 p)) (h2 : w.cell? ⟨S, 2, none⟩ = some (.bool b))
    (h3 : w.cell? ⟨S, 3, none⟩ = some (.int .i64 p')) (h4 : w.cell? ⟨S, 4, none⟩ = some (.bool b'))
    (f3 : w.frozen? ⟨S, 3, none⟩ = false) (f4 : w.frozen? ⟨S, 4, none⟩ = false) :
    Calls Tryf.prog 51 #[.pointer (some ⟨S, 0, none⟩)] w fun e w' => e = .returned (.tuple #[]) ∧ w' = (w.setCell ⟨S, 3, none⟩ (.int .i64 p)).setCell ⟨S, 4, none⟩ (.bool b) := by
  go_enter Tryf.func51, Tryf.ntmps51
  go_wp2
  go_end0
  exact ⟨rfl, rfl⟩

theorem restore_raw (S : Nat) (p p' : Int) (b b' : Bool) (w : World)
    (h1 : w.cell? ⟨S, 1, none⟩ = some (.int .i64 p)) (h2 : w.cell? ⟨S, 2, none⟩ = some (.bool b))
    (h3 : w.cell? ⟨S, 3, none⟩ = some (.int .i64 p')) (h4 : w.cell? ⟨S, 4, none⟩ = some (.bool b'))
    (f1 : w.frozen? ⟨S, 1, none⟩ = false) (f2 : w.frozen? ⟨S, 2, none⟩ = false) :
    Calls Tryf.prog 54 #[.pointer (some ⟨S, 0, none⟩)] w fun e w' => e = .returned (.tuple #[]) ∧ w' = (w.setCell ⟨S, 1, none⟩ (.int .i64 p')).setCell ⟨S, 2, none⟩ (.bool b') := by
  go_enter Tryf.func54, Tryf.ntmps54
  go_wp2
  go_end0
  exact ⟨rfl, rfl⟩

theorem newScanner_raw (a : Option Addr) (n cap : Nat) (w : World) :
    Calls Tryf.prog 37 #[.slice a n cap] w fun e w' => e = .returned (.pointer (some ⟨w.heap.size, 0, none⟩)) ∧ w' = w.alloc (.cells #[.slice a n cap, .int .i64 0, .bool false, .int .i64 0, .bool false] 150) := by
  go_enter Tryf.func37, Tryf.ntmps37
  go_wp2
  go_ret
  exact ⟨rfl, rfl⟩

theorem scan_save {w : World} {S A cap k j : Nat} {l : List UInt8} (h : Scan w S A cap l k j) :
    Calls Tryf.prog 51 #[.pointer (some ⟨S, 0, none⟩)] w (Gives S A cap l k k (.tuple #[]) w) := by
  refine (save_raw S _ _ _ _ w h.c1 h.c2 h.c3 h.c4 (h.fz 3 (by omega)) (h.fz 4 (by omega))).mono ?_
  rintro e w' ⟨rfl, rfl⟩
  have o : ∀ i, i ≠ 3 → i ≠ 4 → ((w.setCell ⟨S, 3, none⟩ (.int .i64 (scPos l.length k))).setCell ⟨S, 4, none⟩ (.bool (scOn k))).cell? ⟨S, i, none⟩ = w.cell? ⟨S, i, none⟩ := fun i h3 h4 => by
    rw [World.cell?_setCell_other _ _ _ _ (addr_ne (fun e => h4 e.symm)), World.cell?_setCell_other _ _ _ _ (addr_ne (fun e => h3 e.symm))]
  have ch : Ch (· = S) w ((w.setCell ⟨S, 3, none⟩ (.int .i64 (scPos l.length k))).setCell ⟨S, 4, none⟩ (.bool (scOn k))) := ((Ch.refl (· = S) w).setCell (p := ⟨S, 3, none⟩) (fun _ => rfl) _).setCell (p := ⟨S, 4, none⟩) (fun _ => rfl) _
  refine ⟨rfl, ⟨(o 0 (by decide) (by decide)).trans h.c0, (o 1 (by decide) (by decide)).trans h.c1, (o 2 (by decide) (by decide)).trans h.c2, ?_, ?_, fun i hi => by simp [h.fz i hi], h.ne, h.len, fun i hi => ch.cell_some (h.byte i hi) h.ne⟩, ch, by simp⟩
  · rw [World.cell?_setCell_other _ _ _ _ (addr_ne (by decide))]
    exact World.cell?_setCell_same w _ _ h.c3
  · exact World.cell?_setCell_same _ _ _ (by rw [World.cell?_setCell_other _ _ _ _ (addr_ne (by decide))]; exact h.c4)

theorem scan_restore {w : World} {S A cap k j : Nat} {l : List UInt8} (h : Scan w S A cap l k j) :
    Calls Tryf.prog 54 #[.pointer (some ⟨S, 0, none⟩)] w (Gives S A cap l j j (.tuple #[]) w) := by
  refine (restore_raw S _ _ _ _ w h.c1 h.c2 h.c3 h.c4 (h.fz 1 (by omega)) (h.fz 2 (by omega))).mono ?_
  rintro e w' ⟨rfl, rfl⟩
  have m : Moved S (scPos l.length j) (scOn j) w ((w.setCell ⟨S, 1, none⟩ (.int .i64 (scPos l.length j))).setCell ⟨S, 2, none⟩ (.bool (scOn j))) := ((Moved.start h.c1 h.c2).pos).on
  exact ⟨rfl, h.moved m, m.ch, m.size⟩

/-- A scanner that is made over bytes. -/
theorem scan_new {w : World} {A cap : Nat} {l : List UInt8} (hl : l.length ≤ 100000) (hb : ∀ i (h : i < l.length), w.cell? ⟨A, i, none⟩ = some (.int .u8 (l[i].toNat : Int))) (hA : A < w.heap.size) :
    Calls Tryf.prog 37 #[.slice (some ⟨A, 0, none⟩) l.length cap] w fun e w' => e = .returned (.pointer (some ⟨w.heap.size, 0, none⟩)) ∧ Scan w' w.heap.size A cap l 0 0 ∧ Ch (fun _ => False) w w' ∧ w'.heap.size = w.heap.size + 1 := by
  refine (newScanner_raw _ _ _ w).mono ?_
  rintro e w' ⟨rfl, rfl⟩
  have ch : Ch (fun _ => False) w (w.alloc (.cells #[.slice (some ⟨A, 0, none⟩) l.length cap, .int .i64 0, .bool false, .int .i64 0, .bool false] 150)) := (Ch.refl _ w).alloc _
  have hc : ∀ i v, #[Value.slice (some ⟨A, 0, none⟩) l.length cap, .int .i64 0, .bool false, .int .i64 0, .bool false][i]? = some v → (w.alloc (.cells #[.slice (some ⟨A, 0, none⟩) l.length cap, .int .i64 0, .bool false, .int .i64 0, .bool false] 150)).cell? ⟨w.heap.size, i, none⟩ = some v := fun i v hv => by
    rw [cell_of_row _ _ _ _ _ _ (heap_alloc_new w _)]; exact hv
  refine ⟨rfl, ⟨hc 0 _ rfl, hc 1 _ rfl, hc 2 _ rfl, hc 3 _ rfl, hc 4 _ rfl, fun i _ => World.frozen?_alloc_new w _ _ _, by omega, hl, fun i hi => ch.cell_some (hb i hi) (by simp)⟩, ch, by simp⟩

end Go.Proofs.YtkbdngcbifonkaaFmt
