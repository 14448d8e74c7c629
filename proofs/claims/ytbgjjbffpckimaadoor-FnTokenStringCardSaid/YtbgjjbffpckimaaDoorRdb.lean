/-
  bufio.Reader.ReadByte: the next byte, or io.EOF at the text's end.
-/
import Derived.Test.YtbgjjbffpckimaaDoorFic
namespace Go.Proofs.YtbgjjbffpckimaaDoor
set_option linter.all false
open Go.RowKit

set_option maxRecDepth 100000 in
set_option maxHeartbeats 4000000 in
theorem readByte_some {w : World} {B F S : Nat} {s : ByteArray} {i r u : Nat} {lb : Int} (H : Hid (BioAt w B F S s i r u lb)) (hr : r ≤ i) (hs4 : s.size < 4096) (hi : i < s.size) :
    Calls Tryd.prog 42 #[ptr B] w fun e w' => e = .returned (.tuple #[.int .u8 (s[i].toNat : Int), .nilIface]) ∧ Ch (Tb B F S) w w' ∧ ∃ r' u', BioAt w' B F S s (i + 1) r' u' (s[i].toNat : Int) ∧ 0 < r' ∧ r' ≤ i + 1 := by
  obtain ⟨v6, b6⟩ := H.out.b6
  have z6 := H.out.bz 6
  go_enter Tryd.func42, Tryd.ntmps42
  go_wp2_with fail
  go_loopg [] 1 (fun k wr => ∃ r u, BioAt wr B F S s i r u lb ∧ r ≤ i ∧ Ch (Tb B F S) w wr ∧ (k = 0 → r < u))
  case atStart => exact ⟨r, u, H.out.setB6 (-1), hr, (Ch.refl _ _).setCell (p := ⟨B, 6, none⟩) (fun _ => .inl rfl) _, by simp⟩
  case round =>
    obtain ⟨r2, u2, h2, hr2, hc2, hk⟩ := hrel
    have H2 := Lib.hid h2
    have C2 := Lib.hid hc2
    clear h2 hc2 H hr b6 z6
    have c0 := H2.out.b0
    have c2 := H2.out.b2
    have c3 := H2.out.b3
    have c4 := H2.out.b4
    have c5 := H2.out.b5
    have y2 := H2.out.bz 2
    have y5 := H2.out.bz 5
    have hru := H2.out.ru
    have hu4 := H2.out.u4
    by_cases hlt : r2 < u2
    · have g1 : ¬ (r2 : Int) = (u2 : Int) := by omega
      have g1b : ((r2 : Int) == (u2 : Int)) = false := by simp; omega
      have g2 : (r2 : Int) < 4096 := by omega
      have g3 : (0 : Int) ≤ (r2 : Int) := by omega
      have cf := H2.out.fv r2 (Nat.le_refl _) hlt (by omega)
      simp only [Nat.sub_self, Nat.add_zero] at cf
      have hw : IntKind.i64.wrap ((r2 : Int) + 1) = ((r2 + 1 : Nat) : Int) := by rw [IntKind.wrap_i64]; omega
      have hw2 : IntKind.i64.wrap ((s[i].toNat : Nat) : Int) = ((s[i].toNat : Nat) : Int) := by rw [IntKind.wrap_i64]; have := (s[i]).toNat_lt; omega
      go_wp2_with fail
      go_quiet (fail)
      go_wp2_with fail
      go_quiet (fail)
      go_wp2_with fail
      refine bodyPost_ret (results_tmp2 rfl _ _ _) rfl ?_
      refine ⟨rfl, ((C2.out.drewN _).setCell (p := ⟨B, 2, none⟩) (fun _ => .inl rfl) _).setCell (p := ⟨B, 5, none⟩) (fun _ => .inl rfl) _, r2 + 1, u2, ((H2.out.moved ((Ch.refl _ _).drewN _)).fwd hlt).setB5 _, by omega, by omega⟩
    · have e : u2 = r2 := by omega
      subst e
      have g1b : ((u2 : Int) == (u2 : Int)) = true := by simp
      have hk0 : 0 < gk := by omega
      go_wp2_with fail
      go_quiet (fail)
      go_wp2_with fail
      refine (fill_some (i := i) (r := u2) (v := .nilIface) (Lib.hid (H2.out.moved ((Ch.refl _ _).drewN _))) hr2 hs4 hi).mono ?_
      rintro e w' ⟨rfl, h3, hc3⟩
      simp only []
      go_wp2_with fail
      go_roundg 0
      case rel => exact ⟨0, _, h3, Nat.zero_le _, (C2.out.drewN _).trans hc3, fun _ => by omega⟩
      case measure => omega

set_option maxRecDepth 100000 in
set_option maxHeartbeats 4000000 in
theorem readByte_eof {w : World} {B F S : Nat} {X : Addr} {s : ByteArray} {r u : Nat} {lb : Int} (H : Hid (BioAt w B F S s s.size r u lb)) (hr : r ≤ s.size) (hs4 : s.size < 4096) (he : w.cell? ⟨2, 0, none⟩ = some (eofv X)) (n2 : ¬ Tb B F S 2) :
    Calls Tryd.prog 42 #[ptr B] w fun e w' => e = .returned (.tuple #[.int .u8 0, eofv X]) ∧ Ch (Tb B F S) w w' ∧ BioAt w' B F S s s.size 0 0 lb := by
  obtain ⟨v6, b6⟩ := H.out.b6
  have z6 := H.out.bz 6
  have hu : u = r := by have := H.out.isz; have := H.out.ru; omega
  subst hu
  go_enter Tryd.func42, Tryd.ntmps42
  go_wp2_with fail
  go_loopg [] 1 (fun k wr => (k = 1 ∧ BioAt wr B F S s s.size u u lb ∧ Ch (Tb B F S) w wr) ∨ (k = 0 ∧ ∃ w2, BioAt w2 B F S s s.size 0 0 lb ∧ Ch (Tb B F S) w w2 ∧ wr = w2.setCell ⟨B, 4, none⟩ (eofv X)))
  case atStart => exact .inl ⟨rfl, H.out.setB6 (-1), (Ch.refl _ _).setCell (p := ⟨B, 6, none⟩) (fun _ => .inl rfl) _⟩
  case round =>
    rcases hrel with ⟨rfl, h2, hc2⟩ | ⟨rfl, w2, h2, hc2, rfl⟩
    · have H2 := Lib.hid h2
      have C2 := Lib.hid hc2
      have he2 := hc2.cell_some he n2
      clear h2 hc2 H b6 z6 he
      have c2 := H2.out.b2
      have c3 := H2.out.b3
      have c4 := H2.out.b4
      have g1b : ((u : Int) == (u : Int)) = true := by simp
      go_wp2_with fail
      go_quiet (fail)
      go_wp2_with fail
      refine (fill_eof (r := u) (X := X) (Lib.hid (H2.out.moved ((Ch.refl _ _).drewN _))) hr hs4 he2 (fun e => n2 (.inl e))).mono ?_
      rintro e w' ⟨rfl, w3, h3, hc3, rfl⟩
      simp only []
      go_wp2_with fail
      go_roundg 0
      case rel => exact .inr ⟨rfl, w3, h3, (C2.out.drewN _).trans hc3, rfl⟩
      case measure => omega
    · have H2 := Lib.hid h2
      have C2 := Lib.hid hc2
      clear h2 hc2 H b6 z6 he
      have c2 := co (x := eofv X) H2.out.b2 (a := ⟨B, 4, none⟩) (addr_ne (by decide))
      have c3 := co (x := eofv X) H2.out.b3 (a := ⟨B, 4, none⟩) (addr_ne (by decide))
      have c4 := cs (x := eofv X) H2.out.b4
      have g1b : (((0 : Nat) : Int) == ((0 : Nat) : Int)) = true := rfl
      go_wp2_with fail
      go_quiet (fail)
      go_wp2_with fail
      refine (readErr_calls (B := B) (v := eofv X) (by simpa using c4) (by simp [World.frozen?_setCell]; exact H2.out.bz 4) rfl).mono ?_
      rintro e w' ⟨rfl, rfl⟩
      simp only []
      go_wp2_with fail
      refine bodyPost_ret (results_tmp2 rfl _ _ _) rfl ?_
      exact ⟨rfl, ((C2.out.setCell (p := ⟨B, 4, none⟩) (fun _ => .inl rfl) _).drewN _).setCell (p := ⟨B, 4, none⟩) (fun _ => .inl rfl) _, (H2.out.moved ((Ch.refl _ _).drewN _)).err _⟩

end Go.Proofs.YtbgjjbffpckimaaDoor
