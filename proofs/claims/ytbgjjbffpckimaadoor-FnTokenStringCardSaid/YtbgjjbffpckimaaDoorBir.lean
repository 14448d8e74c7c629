/-
  strings.Reader.Read AND bufio.Reader.fill, ReadByte: the text goes into the buffer at one go.
-/
import Derived.Test.YtbgjjbffpckimaaDoorBio
import Derived.Handy
import Derived.BigQuiet
import Derived.KernelRfl
namespace Go.Proofs.YtbgjjbffpckimaaDoor
set_option linter.all false
open Go.RowKit

set_option maxRecDepth 100000 in
set_option maxHeartbeats 4000000 in
theorem read_eof {w : World} {S : Nat} {s : ByteArray} {v e : Value} (s0 : w.cell? ⟨S, 0, none⟩ = some (.string s)) (s1 : w.cell? ⟨S, 1, none⟩ = some (.int .i64 (s.size : Int))) (hv : v.oneCell' = true) (he : w.cell? ⟨2, 0, none⟩ = some v) :
    Calls Tryd.prog 106 #[ptr S, e] w fun e w' => e = .returned (.tuple #[.int .i64 0, v]) ∧ Ch (fun _ => False) w w' := by
  have g1 : (s.size : Int) ≥ (s.size : Int) := Int.le_refl _
  have g2 : decide ((s.size : Int) ≤ (s.size : Int)) = true := by simp
  go_enter Tryd.func106, Tryd.ntmps106
  go_wp2_with fail
  go_quiet (fail)
  go_wp2_with fail
  go_quiet (fail)
  go_wp2_with fail
  refine bodyPost_ret (results_tmp2 rfl _ _ _) rfl ?_
  exact ⟨rfl, ((Ch.refl _ _).drewN _).drewN _⟩

theorem sz5 : (Tryd.prog.info? 5).map (·.size) = some 1 := by kernel_rfl
theorem und31 : Tryd.prog.underlying 31 = some (.slice 5) := by kernel_rfl
theorem z5 (w : World) : (Go.sizeOf 5).run Tryd.prog w = .ok 1 w := by
  have h := sz5
  cases hq : Tryd.prog.info? 5 with
  | none => simp [hq] at h
  | some i =>
    simp [hq] at h
    simp [Go.sizeOf, typeInfo, hq, h]
/-- The cells of a text from a place on. -/
def tailOf (s : ByteArray) (i : Nat) : List Value := ((s.data.toList.map fun x => Value.int .u8 (x.toNat : Int)).drop i).take (s.size - i)
theorem tailOf_length (s : ByteArray) (i : Nat) : (tailOf s i).length = s.size - i := by simp [tailOf]
theorem tailOf_at (s : ByteArray) (i k : Nat) (h : i + k < s.size) (h' : k < (tailOf s i).length) : (tailOf s i)[k] = .int .u8 (s[i + k].toNat : Int) := by
  simp [tailOf]
  rfl
theorem Ch.setCells {T : Nat → Prop} {F : Nat} (hT : T F) : ∀ (vs : List Value) (o : Nat) {a b : World}, Ch T a b → Ch T a (b.setCells F o vs)
  | [], _, _, _, h => h
  | v :: r, o, _, _, h => Ch.setCells hT r (o + 1) (h.setCell (p := ⟨F, o, none⟩) (fun _ => hT) v)
theorem isome_setCells {F : Nat} : ∀ (vs : List Value) (o : Nat) {w : World} {x : Addr}, (w.cell? x).isSome = true → ((w.setCells F o vs).cell? x).isSome = true
  | [], _, _, _, h => h
  | v :: r, o, _, _, h => isome_setCells r (o + 1) (isome_co h)
theorem cell_drew (w : World) (a : Addr) : w.drew.cell? a = w.cell? a := rfl
theorem filled {w : World} {S F i : Nat} {s : ByteArray} (s0 : w.cell? ⟨S, 0, none⟩ = some (.string s)) (s1 : w.cell? ⟨S, 1, none⟩ = some (.int .i64 (i : Int))) {v2 : Value} (s2 : w.cell? ⟨S, 2, none⟩ = some v2) (hi : i < s.size) (hn : s.size - i ≤ 4096) (hf : ∀ k, k < 4096 → (w.cell? ⟨F, k, none⟩).isSome = true) (nFS : ¬ F = S) {a : World} (hc : Ch (fun b => b = F ∨ b = S) a w) :
    (w.setCells F 0 (tailOf s i)).cell? ⟨S, 0, none⟩ = some (.string s) ∧ (w.setCells F 0 (tailOf s i)).cell? ⟨S, 1, none⟩ = some (.int .i64 (i : Int)) ∧ (w.setCells F 0 (tailOf s i)).cell? ⟨S, 2, none⟩ = some v2 ∧ (∀ a, (w.setCells F 0 (tailOf s i)).frozen? a = w.frozen? a) ∧ (∀ k, k < 4096 → ((w.setCells F 0 (tailOf s i)).cell? ⟨F, k, none⟩).isSome = true) ∧ (∀ k, (h : i + k < s.size) → (w.setCells F 0 (tailOf s i)).cell? ⟨F, k, none⟩ = some (.int .u8 (s[i + k].toNat : Int))) ∧ Ch (fun b => b = F ∨ b = S) a (w.setCells F 0 (tailOf s i)) := by
  have ho : ∀ j, (w.setCells F 0 (tailOf s i)).cell? ⟨S, j, none⟩ = w.cell? ⟨S, j, none⟩ := fun j => World.cell?_setCells_out F _ 0 w _ (fun e => absurd e.symm nFS)
  refine ⟨(ho 0).trans s0, (ho 1).trans s1, (ho 2).trans s2, World.frozen?_setCells F _ 0 w, fun k hk => isome_setCells _ 0 (hf k hk), fun k h => ?_, Ch.setCells (.inl rfl) _ 0 hc⟩
  have hl := tailOf_length s i
  have := World.cell?_setCells_in F (tailOf s i) 0 w (fun j hj => by rw [Nat.zero_add]; exact hf j (by omega)) k (by omega)
  rw [Nat.zero_add] at this
  rw [this, tailOf_at s i k h]
noncomputable def reg106 (id : Nat) : Code := (rgd id (Tryd.f106.body.getD .skip)).getD .skip

set_option maxRecDepth 100000 in
set_option maxHeartbeats 4000000 in
theorem read_reg {w : World} {S F i : Nat} {s : ByteArray} {Q : Exit → Act → World → Prop} {u2 u3 u4 u5 u6 u7 u8 u9 u10 u11 u12 u13 u14 u15 u16 u17 u18 u19 u20 u21 u22 u23 u24 u25 u26 u27 u28 u29 u30 u31 u32 u33 u34 u35 u36 u37 u38 : Value} (s0 : w.cell? ⟨S, 0, none⟩ = some (.string s)) (s1 : w.cell? ⟨S, 1, none⟩ = some (.int .i64 (i : Int))) (hi : i < s.size) (hn : s.size - i ≤ 4096) (hf : ∀ k, k < 4096 → (w.cell? ⟨F, k, none⟩).isSome = true) (fz : ∀ k, w.frozen? ⟨F, k, none⟩ = false)
    (hQ : ∀ (w' : World) (y20 y21 y22 y23 y24 y25 y26 y27 y28 y29 y30 : Value), (w' = w.setCells F 0 (tailOf s i) ∨ w' = w.drew.setCells F 0 (tailOf s i)) → Q .normal { tmps := #[ptr S, .slice (some ⟨F, 0, none⟩) 4096 4096, u2, u3, .int .i64 ((s.size - i : Nat) : Int), u5, u6, u7, u8, u9, u10, u11, u12, u13, u14, u15, u16, u17, u18, u19, y20, y21, y22, y23, y24, y25, y26, y27, y28, y29, y30, u31, u32, u33, u34, u35, u36, u37, u38], defers := [] } w') :
    (reg106 4).wp Tryd.prog Q { tmps := #[ptr S, .slice (some ⟨F, 0, none⟩) 4096 4096, u2, u3, u4, u5, u6, u7, u8, u9, u10, u11, u12, u13, u14, u15, u16, u17, u18, u19, u20, u21, u22, u23, u24, u25, u26, u27, u28, u29, u30, u31, u32, u33, u34, u35, u36, u37, u38], defers := [] } w := by
  have g1 : ¬ (s.size : Int) < (i : Int) := by omega
  have g3 : (i : Int) ≤ (s.size : Int) := by omega
  have g4 : (0 : Int) ≤ (i : Int) := by omega
  have Hf := Lib.hid hf
  have Fz := Lib.hid fz
  clear hf fz
  have HQ := Lib.hid hQ
  clear hQ
  conv => arg 2; whnf
  refine wp_region_noPanic ?_
  go_region_law (refine step_copy_string rfl (.tmp 20) (.tmp 29) 31 9 rfl 5 und31 z5 F 0 4096 4096 (by simp [Act.eval, Act.put]) (s.extract i s.size) (by simp [Act.eval, Act.put]) (by simp; omega) (fun j hj => by rw [Nat.zero_add]; exact Hf.out j (by simp at hj; omega)) (fun j _ => Fz.out _) ?_)
  all_goals
    refine NoPanic.normal ?_
    first
    | exact HQ.out _ _ _ _ _ _ _ _ _ _ _ _ (.inl rfl)
    | exact HQ.out _ _ _ _ _ _ _ _ _ _ _ _ (.inr rfl)

set_option maxRecDepth 100000 in
set_option maxHeartbeats 4000000 in
theorem read_some {w : World} {S F i : Nat} {s : ByteArray} (s0 : w.cell? ⟨S, 0, none⟩ = some (.string s)) (s1 : w.cell? ⟨S, 1, none⟩ = some (.int .i64 (i : Int))) {v2 : Int} (s2 : w.cell? ⟨S, 2, none⟩ = some (.int .i64 v2))
    (hz : ∀ j, w.frozen? ⟨S, j, none⟩ = false) (hi : i < s.size) (hn : s.size - i ≤ 4096) (hf : ∀ k, k < 4096 → (w.cell? ⟨F, k, none⟩).isSome = true) (fz : ∀ k, w.frozen? ⟨F, k, none⟩ = false) (nFS : ¬ F = S) (hsz : s.size < 9223372036854775807) :
    Calls Tryd.prog 106 #[ptr S, .slice (some ⟨F, 0, none⟩) 4096 4096] w fun e w' => e = .returned (.tuple #[.int .i64 ((s.size - i : Nat) : Int), .nilIface]) ∧ Ch (fun b => b = F ∨ b = S) w w' ∧
      w'.cell? ⟨S, 0, none⟩ = some (.string s) ∧ w'.cell? ⟨S, 1, none⟩ = some (.int .i64 (s.size : Int)) ∧ w'.cell? ⟨S, 2, none⟩ = some (.int .i64 (-1)) ∧ (∀ j, w'.frozen? ⟨S, j, none⟩ = false) ∧ (∀ k, w'.frozen? ⟨F, k, none⟩ = false) ∧
      (∀ k, k < 4096 → (w'.cell? ⟨F, k, none⟩).isSome = true) ∧ (∀ k, (h : i + k < s.size) → w'.cell? ⟨F, k, none⟩ = some (.int .u8 (s[i + k].toNat : Int))) := by
  have z2 := hz 2
  have z1 := hz 1
  have Hf := Lib.hid hf
  have Fz := Lib.hid fz
  have Hz := Lib.hid hz
  clear hf fz hz
  have g1 : ¬ (s.size : Int) ≤ (i : Int) := by omega
  have g2 : decide ((s.size : Int) ≤ (i : Int)) = false := decide_eq_false g1
  have g3 : (i : Int) ≤ (s.size : Int) := by omega
  have hw : IntKind.i64.wrap ((i : Int) + ((s.size - i : Nat) : Int)) = (s.size : Int) := by rw [IntKind.wrap_i64]; omega
  have nS : ∀ {j k}, ¬ (⟨S, j, none⟩ : Addr) = ⟨F, k, none⟩ := fun e => nFS (congrArg Addr.block e).symm
  go_enter Tryd.func106, Tryd.ntmps106
  go_wp2_with fail
  go_quiet (fail)
  go_wp2_with fail
  refine read_reg (S := S) (F := F) (i := i) (s := s) (co (by simpa using s0) (addr_ne (by decide))) (co (by simpa using s1) (addr_ne (by decide))) hi hn (fun k hk => isome_co (by simpa using Hf.out k hk)) (fun k => by rw [World.frozen?_setCell]; simpa using Fz.out k) ?_
  intro w2 _ _ _ _ _ _ _ _ _ _ _ hw2
  have hw2' : w2.cell? ⟨S, 0, none⟩ = some (.string s) ∧ w2.cell? ⟨S, 1, none⟩ = some (.int .i64 (i : Int)) ∧ w2.cell? ⟨S, 2, none⟩ = some (.int .i64 (-1)) ∧ (∀ a, w2.frozen? a = w.frozen? a) ∧ (∀ k, k < 4096 → (w2.cell? ⟨F, k, none⟩).isSome = true) ∧ (∀ k, (h : i + k < s.size) → w2.cell? ⟨F, k, none⟩ = some (.int .u8 (s[i + k].toNat : Int))) ∧ Ch (fun b => b = F ∨ b = S) w w2 := by
    rcases hw2 with rfl | rfl
    · obtain ⟨p0, p1, p2, p3, p4, p5, p6⟩ := filled (a := w) (co (by simpa using s0) (addr_ne (by decide))) (co (by simpa using s1) (addr_ne (by decide))) (cs (by simpa using s2)) hi hn (fun k hk => isome_co (by simpa using Hf.out k hk)) nFS (((Ch.refl _ _).drewN _).setCell (p := ⟨S, 2, none⟩) (fun _ => .inr rfl) _)
      exact ⟨p0, p1, p2, fun a => (p3 a).trans (by rw [World.frozen?_setCell]; rfl), p4, p5, p6⟩
    · obtain ⟨p0, p1, p2, p3, p4, p5, p6⟩ := filled (a := w) (w := ((w.drewN _).setCell ⟨S, 2, none⟩ (.int .i64 (-1))).drew) ((cell_drew _ _).trans (co (by simpa using s0) (addr_ne (by decide)))) ((cell_drew _ _).trans (co (by simpa using s1) (addr_ne (by decide)))) ((cell_drew _ _).trans (cs (by simpa using s2))) hi hn (fun k hk => by rw [cell_drew]; exact isome_co (by simpa using Hf.out k hk)) nFS (((Ch.refl _ _).drewN _).setCell (p := ⟨S, 2, none⟩) (fun _ => .inr rfl) _).drew
      exact ⟨p0, p1, p2, fun a => (p3 a).trans (by show World.frozen? (World.setCell _ _ _) a = _; rw [World.frozen?_setCell]; rfl), p4, p5, p6⟩
  clear hw2
  obtain ⟨t0, t1, t2, tz, tf, tv, tc⟩ := hw2'
  have tz1 : w2.frozen? ⟨S, 1, none⟩ = false := (tz _).trans z1
  have Tz := Lib.hid tz
  have Tf := Lib.hid tf
  have Tv := Lib.hid tv
  clear tz tf tv
  simp only [Exit.then]
  go_wp2_with fail
  refine bodyPost_ret (results_tmp2 rfl _ _ _) rfl ?_
  refine ⟨rfl, tc.setCell (p := ⟨S, 1, none⟩) (fun _ => .inr rfl) _, co t0 (addr_ne (by decide)), cs t1, co t2 (addr_ne (by decide)), fun j => by rw [World.frozen?_setCell, Tz.out]; exact Hz.out j, fun k => by rw [World.frozen?_setCell, Tz.out]; exact Fz.out k, fun k hk => isome_co (Tf.out k hk), fun k h => co (Tv.out k h) nS⟩
end Go.Proofs.YtbgjjbffpckimaaDoor
