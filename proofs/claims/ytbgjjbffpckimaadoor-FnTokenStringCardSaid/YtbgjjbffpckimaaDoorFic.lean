/-
  bufio.Reader.fill AND ReadByte: what they leave of a reader.
-/
import Derived.Test.YtbgjjbffpckimaaDoorFil
namespace Go.Proofs.YtbgjjbffpckimaaDoor
set_option linter.all false
open Go.RowKit

section
variable {w w' : World} {B F S : Nat} {s : ByteArray} {i r u : Nat} {lb : Int}

/-- An empty buffer is laid at its start. -/
theorem BioAt.reset (h : BioAt w B F S s i r r lb) : BioAt ((w.setCell ⟨B, 3, none⟩ (.int .i64 0)).setCell ⟨B, 2, none⟩ (.int .i64 0)) B F S s i 0 0 lb := by
  have nF : ∀ {j k}, ¬ (⟨B, j, none⟩ : Addr) = ⟨F, k, none⟩ := fun e => h.nBF (congrArg Addr.block e)
  have nS : ∀ {j k}, ¬ (⟨B, j, none⟩ : Addr) = ⟨S, k, none⟩ := fun e => h.nBS (congrArg Addr.block e)
  obtain ⟨v6, h6⟩ := h.b6
  obtain ⟨v2, h2⟩ := h.s2
  have zf : ∀ a, ((w.setCell ⟨B, 3, none⟩ (.int .i64 0)).setCell ⟨B, 2, none⟩ (.int .i64 0)).frozen? a = w.frozen? a := fun a => by rw [World.frozen?_setCell, World.frozen?_setCell]
  have hs := h.s1
  have hz := h.isz
  rw [Nat.sub_self, Nat.add_zero] at hs hz
  have d : ∀ {j k : Nat}, ¬ j = k → ¬ (⟨B, j, none⟩ : Addr) = ⟨B, k, none⟩ := fun e => addr_ne e
  exact ⟨co (co h.b0 (d (by decide))) (d (by decide)), co (co h.b1 (d (by decide))) (d (by decide)), cs (co h.b2 (d (by decide))), co (cs h.b3) (d (by decide)), co (co h.b4 (d (by decide))) (d (by decide)), co (co h.b5 (d (by decide))) (d (by decide)), ⟨v6, co (co h6 (d (by decide))) (d (by decide))⟩, fun j => (zf _).trans (h.bz j),
    fun k hk => isome_co (isome_co (h.f k hk)), fun k h1 h2 h3 => by omega, fun k => (zf _).trans (h.fz k), co (co h.s0 nS) nS, co (co (by simpa using hs) nS) nS, ⟨v2, co (co h2 nS) nS⟩, fun j => (zf _).trans (h.sz j), by omega, by omega, by omega, h.nBF, h.nBS, h.nFS⟩

/-- The buffer is filled. -/
theorem BioAt.fill (h : BioAt w B F S s i 0 0 lb) (hi : i ≤ s.size) (hn : s.size - i ≤ 4096) (hc : Ch (fun b => b = F ∨ b = S) w w')
    (t0 : w'.cell? ⟨S, 0, none⟩ = some (.string s)) (t1 : w'.cell? ⟨S, 1, none⟩ = some (.int .i64 (s.size : Int))) (t2 : w'.cell? ⟨S, 2, none⟩ = some (.int .i64 (-1))) (tz : ∀ j, w'.frozen? ⟨S, j, none⟩ = false) (fz : ∀ k, w'.frozen? ⟨F, k, none⟩ = false)
    (tf : ∀ k, k < 4096 → (w'.cell? ⟨F, k, none⟩).isSome = true) (tv : ∀ k, (h : i + k < s.size) → w'.cell? ⟨F, k, none⟩ = some (.int .u8 (s[i + k].toNat : Int))) : BioAt (w'.setCell ⟨B, 3, none⟩ (.int .i64 ((s.size - i : Nat) : Int))) B F S s i 0 (s.size - i) lb := by
  have nF : ∀ {j k}, ¬ (⟨B, j, none⟩ : Addr) = ⟨F, k, none⟩ := fun e => h.nBF (congrArg Addr.block e)
  have nS : ∀ {j k}, ¬ (⟨B, j, none⟩ : Addr) = ⟨S, k, none⟩ := fun e => h.nBS (congrArg Addr.block e)
  have nB : ¬ (B = F ∨ B = S) := fun e => e.elim h.nBF h.nBS
  have lB : B < w.heap.size := World.block_lt_of_cell? w _ h.b0
  obtain ⟨v6, h6⟩ := h.b6
  have zf : ∀ a, (w'.setCell ⟨B, 3, none⟩ (.int .i64 ((s.size - i : Nat) : Int))).frozen? a = w'.frozen? a := fun a => by rw [World.frozen?_setCell]
  have d : ∀ {j k : Nat}, ¬ j = k → ¬ (⟨B, j, none⟩ : Addr) = ⟨B, k, none⟩ := fun e => addr_ne e
  have e1 : i + (s.size - i - 0) = s.size := by omega
  refine ⟨co (hc.cell_some h.b0 nB) (d (by decide)), co (hc.cell_some h.b1 nB) (d (by decide)), co (hc.cell_some h.b2 nB) (d (by decide)), cs (hc.cell_some h.b3 nB), co (hc.cell_some h.b4 nB) (d (by decide)), co (hc.cell_some h.b5 nB) (d (by decide)), ⟨v6, co (hc.cell_some h6 nB) (d (by decide))⟩, fun j => (zf _).trans ((hc.frozen (p := ⟨B, j, none⟩) lB nB).trans (h.bz j)),
    fun k hk => isome_co (tf k hk), fun k h1 h2 h3 => ?_, fun k => (zf _).trans (fz k), co t0 nS, ?_, ⟨-1, co t2 nS⟩, fun j => (zf _).trans (tz j), by omega, by omega, by omega, h.nBF, h.nBS, h.nFS⟩
  · exact co (tv k (by simpa using h3)) nF
  · rw [e1]; exact co t1 nS

theorem BioAt.setB3 (h : BioAt w B F S s i r u lb) : BioAt (w.setCell ⟨B, 3, none⟩ (.int .i64 (u : Int))) B F S s i r u lb := by
  have nF : ∀ {j k}, ¬ (⟨B, j, none⟩ : Addr) = ⟨F, k, none⟩ := fun e => h.nBF (congrArg Addr.block e)
  have nS : ∀ {j k}, ¬ (⟨B, j, none⟩ : Addr) = ⟨S, k, none⟩ := fun e => h.nBS (congrArg Addr.block e)
  obtain ⟨v6, h6⟩ := h.b6
  obtain ⟨v2, h2⟩ := h.s2
  have zf : ∀ a, (w.setCell ⟨B, 3, none⟩ (.int .i64 (u : Int))).frozen? a = w.frozen? a := fun a => by rw [World.frozen?_setCell]
  exact ⟨co h.b0 (addr_ne (by decide)), co h.b1 (addr_ne (by decide)), co h.b2 (addr_ne (by decide)), cs h.b3, co h.b4 (addr_ne (by decide)), co h.b5 (addr_ne (by decide)), ⟨v6, co h6 (addr_ne (by decide))⟩, fun j => (zf _).trans (h.bz j),
    fun k hk => isome_co (h.f k hk), fun k h1 h2 h3 => co (h.fv k h1 h2 h3) nF, fun k => (zf _).trans (h.fz k), co h.s0 nS, co h.s1 nS, ⟨v2, co h2 nS⟩, fun j => (zf _).trans (h.sz j), h.ru, h.u4, h.isz, h.nBF, h.nBS, h.nFS⟩

/-- An error that is set and taken away. -/
theorem BioAt.err (h : BioAt w B F S s i r u lb) (v : Value) : BioAt ((w.setCell ⟨B, 4, none⟩ v).setCell ⟨B, 4, none⟩ .nilIface) B F S s i r u lb := by
  have nF : ∀ {j k}, ¬ (⟨B, j, none⟩ : Addr) = ⟨F, k, none⟩ := fun e => h.nBF (congrArg Addr.block e)
  have nS : ∀ {j k}, ¬ (⟨B, j, none⟩ : Addr) = ⟨S, k, none⟩ := fun e => h.nBS (congrArg Addr.block e)
  obtain ⟨v6, h6⟩ := h.b6
  obtain ⟨v2, h2⟩ := h.s2
  have d : ∀ {j k : Nat}, ¬ j = k → ¬ (⟨B, j, none⟩ : Addr) = ⟨B, k, none⟩ := fun e => addr_ne e
  have zf : ∀ a, ((w.setCell ⟨B, 4, none⟩ v).setCell ⟨B, 4, none⟩ .nilIface).frozen? a = w.frozen? a := fun a => by rw [World.frozen?_setCell, World.frozen?_setCell]
  exact ⟨co (co h.b0 (d (by decide))) (d (by decide)), co (co h.b1 (d (by decide))) (d (by decide)), co (co h.b2 (d (by decide))) (d (by decide)), co (co h.b3 (d (by decide))) (d (by decide)), cs (cs h.b4), co (co h.b5 (d (by decide))) (d (by decide)), ⟨v6, co (co h6 (d (by decide))) (d (by decide))⟩, fun j => (zf _).trans (h.bz j),
    fun k hk => isome_co (isome_co (h.f k hk)), fun k h1 h2 h3 => co (co (h.fv k h1 h2 h3) nF) nF, fun k => (zf _).trans (h.fz k), co (co h.s0 nS) nS, co (co h.s1 nS) nS, ⟨v2, co (co h2 nS) nS⟩, fun j => (zf _).trans (h.sz j), h.ru, h.u4, h.isz, h.nBF, h.nBS, h.nFS⟩
end

/-- io.EOF. -/
abbrev eofv (X : Addr) : Value := .iface 128 (.pointer (some X))

/-- The first loop in a code. -/
noncomputable def lpd : Code → Option Code
  | .seq a b => (lpd a).orElse fun _ => lpd b
  | .cond _ a b => (lpd a).orElse fun _ => lpd b
  | .block _ b => lpd b
  | .loop b => some (.loop b)
  | .scope b => lpd b
  | _ => none
noncomputable def lp53 : Code := (lpd (Tryd.f53.body.getD .skip)).getD .skip

set_option maxRecDepth 100000 in
set_option maxHeartbeats 4000000 in
theorem loop_some {w : World} {B F S : Nat} {s : ByteArray} {i  : Nat} {lb : Int} {v : Value} {Q : Exit → Act → World → Prop} {u1 u3 u4 u5 u6 u7 u8 u9 u10 u11 u12 u13 u14 u15 u16 u17 u18 u19 u20 u21 u22 u23 u24 u25 u26 u27 u28 u29 u30 u31 u32 u33 u34 u35 u36 u37 u38 u39 u40 u41 u42 u43 u44 u45 u46 u47 u48 u49 u50 u51 u52 u53 u54 u55 u56 u57 u58 u59 u60 u61 u62 u63 u64 u65 u66 u67 u68 u69 u70 u71 u72 u73 u74 u75 u76 u77 u78 u79 u80 u81 u82 u83 u84 u85 u86 u87 u88 u89 u90 u91 u92 u93 u94 u95 u96 u97 u98 : Value} (H : Hid (BioAt w B F S s i 0 0 lb)) (hs4 : s.size < 4096) (hi : i < s.size)
    (hQ : ∀ (a' : Act) (w' : World), a'.defers = [] → (BioAt w' B F S s i 0 (s.size - i) lb ∧ Ch (Tb B F S) w w') → Q .ret a' w') :
    lp53.wp Tryd.prog Q { tmps := #[ptr B, u1, .int .i64 100, u3, u4, u5, u6, u7, u8, u9, u10, u11, u12, u13, u14, u15, u16, u17, u18, u19, u20, u21, u22, u23, u24, u25, u26, u27, u28, u29, u30, u31, u32, u33, u34, u35, u36, u37, u38, u39, u40, u41, u42, u43, u44, u45, u46, u47, u48, u49, u50, u51, u52, u53, u54, u55, u56, u57, u58, u59, u60, u61, u62, u63, u64, u65, u66, u67, u68, u69, u70, u71, u72, u73, u74, u75, u76, u77, u78, u79, u80, u81, u82, u83, u84, u85, u86, u87, u88, u89, u90, u91, u92, u93, u94, u95, u96, u97, u98], defers := [] } w := by
  have HQ := Lib.hid hQ
  clear hQ
  conv => arg 2; whnf
  dsimp only
  go_loopg [2] 1 (fun k s2 wr => wr = w ∧ s2 = .int .i64 100)
  case atStart => exact ⟨rfl, rfl⟩
  case round =>
    obtain ⟨rfl, rfl⟩ := hrel
    have c0 := H.out.b0
    have c1 := H.out.b1
    have c3 := H.out.b3
    go_wp2_with fail
    refine fill_r9 (F := F) (S := S) (n := ((s.size - i : Nat) : Int)) (ev := .nilIface) (R := (fun w' => BioAt (w'.setCell ⟨B, 3, none⟩ (.int .i64 ((s.size - i : Nat) : Int))) B F S s i 0 (s.size - i) lb ∧ Ch (Tb B F S) wr w' ∧ w'.cell? ⟨B, 3, none⟩ = some (.int .i64 0) ∧ w'.frozen? ⟨B, 3, none⟩ = false)) c0 c1 c3 ?_ ?_
    · intro w1 hw1
      have H1 : BioAt w1 B F S s i 0 0 lb := by
        rcases hw1 with rfl | rfl
        · exact H.out
        · exact H.out.drew
      have hc1 : Ch (Tb B F S) wr w1 := by
        rcases hw1 with rfl | rfl
        · exact Ch.refl _ _
        · exact (Ch.refl _ _).drew
      obtain ⟨v2, h2⟩ := H1.s2
      have nB : ¬ (B = F ∨ B = S) := fun e => e.elim H1.nBF H1.nBS
      have lB : B < w1.heap.size := World.block_lt_of_cell? w1 _ H1.b0
      refine (read_some H1.s0 (by simpa using H1.s1) h2 H1.sz hi (by omega) H1.f H1.fz H1.nFS (by omega)).mono ?_
      rintro e w' ⟨rfl, hc, t0, t1, t2, tz, fz, tf, tv⟩
      exact ⟨rfl, H1.fill (by omega) (by omega) hc t0 t1 t2 tz fz tf tv, hc1.trans (hc.mono fun _ _ h => .inr h), hc.cell_some H1.b3 nB, (hc.frozen (p := ⟨B, 3, none⟩) lB nB).trans (H1.bz 3)⟩
    · intro w3 _ _ _ _ _ _ _ _ _ _ _ _ _ _ _ _ _ _ _ h3
      obtain ⟨h3a, h3b, d3, y3⟩ := h3
      have H3 := Lib.hid h3a
      have C3 := Lib.hid h3b
      clear h3a h3b
      have g1 : ¬ ((s.size - i : Nat) : Int) < 0 := by omega
      have g2 : (0 : Int) < ((s.size - i : Nat) : Int) := by omega
      have hw0 : IntKind.i64.wrap (0 + ((s.size - i : Nat) : Int)) = ((s.size - i : Nat) : Int) := by rw [IntKind.wrap_i64]; omega
      simp only [Exit.then]
      go_wp2_with fail
      exact HQ.out _ _ rfl ⟨H3.out, C3.out.setCell (p := ⟨B, 3, none⟩) (fun _ => .inl rfl) _⟩

set_option maxRecDepth 100000 in
set_option maxHeartbeats 4000000 in
theorem loop_eof {w : World} {B F S : Nat} {s : ByteArray} {lb : Int} {X : Addr} {Q : Exit → Act → World → Prop} {u1 u3 u4 u5 u6 u7 u8 u9 u10 u11 u12 u13 u14 u15 u16 u17 u18 u19 u20 u21 u22 u23 u24 u25 u26 u27 u28 u29 u30 u31 u32 u33 u34 u35 u36 u37 u38 u39 u40 u41 u42 u43 u44 u45 u46 u47 u48 u49 u50 u51 u52 u53 u54 u55 u56 u57 u58 u59 u60 u61 u62 u63 u64 u65 u66 u67 u68 u69 u70 u71 u72 u73 u74 u75 u76 u77 u78 u79 u80 u81 u82 u83 u84 u85 u86 u87 u88 u89 u90 u91 u92 u93 u94 u95 u96 u97 u98 : Value} (H : Hid (BioAt w B F S s s.size 0 0 lb)) (hs4 : s.size < 4096) (he : w.cell? ⟨2, 0, none⟩ = some (eofv X))
    (hQ : ∀ (a' : Act) (w' : World), a'.defers = [] → (∃ w2, BioAt w2 B F S s s.size 0 0 lb ∧ Ch (Tb B F S) w w2 ∧ w' = w2.setCell ⟨B, 4, none⟩ (eofv X)) → Q .ret a' w') :
    lp53.wp Tryd.prog Q { tmps := #[ptr B, u1, .int .i64 100, u3, u4, u5, u6, u7, u8, u9, u10, u11, u12, u13, u14, u15, u16, u17, u18, u19, u20, u21, u22, u23, u24, u25, u26, u27, u28, u29, u30, u31, u32, u33, u34, u35, u36, u37, u38, u39, u40, u41, u42, u43, u44, u45, u46, u47, u48, u49, u50, u51, u52, u53, u54, u55, u56, u57, u58, u59, u60, u61, u62, u63, u64, u65, u66, u67, u68, u69, u70, u71, u72, u73, u74, u75, u76, u77, u78, u79, u80, u81, u82, u83, u84, u85, u86, u87, u88, u89, u90, u91, u92, u93, u94, u95, u96, u97, u98], defers := [] } w := by
  have HQ := Lib.hid hQ
  clear hQ
  conv => arg 2; whnf
  dsimp only
  go_loopg [2] 1 (fun k s2 wr => wr = w ∧ s2 = .int .i64 100)
  case atStart => exact ⟨rfl, rfl⟩
  case round =>
    obtain ⟨rfl, rfl⟩ := hrel
    have c0 := H.out.b0
    have c1 := H.out.b1
    have c3 := H.out.b3
    go_wp2_with fail
    refine fill_r9 (F := F) (S := S) (n := 0) (ev := (eofv X)) (R := (fun w' => BioAt w' B F S s s.size 0 0 lb ∧ Ch (Tb B F S) wr w')) c0 c1 c3 ?_ ?_
    · intro w1 hw1
      have H1 : BioAt w1 B F S s s.size 0 0 lb := by
        rcases hw1 with rfl | rfl
        · exact H.out
        · exact H.out.drew
      have hc1 : Ch (Tb B F S) wr w1 := by
        rcases hw1 with rfl | rfl
        · exact Ch.refl _ _
        · exact (Ch.refl _ _).drew
      have he1 : w1.cell? ⟨2, 0, none⟩ = some (eofv X) := by
        rcases hw1 with rfl | rfl
        · exact he
        · exact he
      refine (read_eof H1.s0 (by simpa using H1.s1) rfl he1).mono ?_
      rintro e w' ⟨rfl, hc⟩
      exact ⟨rfl, H1.moved hc, hc1.trans (hc.mono fun _ _ h => h.elim)⟩
    · intro w3 _ _ _ _ _ _ _ _ _ _ _ _ _ _ _ _ _ _ _ h3
      obtain ⟨h3a, h3b⟩ := h3
      have H3 := Lib.hid h3a
      have C3 := Lib.hid h3b
      clear h3a h3b
      have d3 := H3.out.b3
      have d4 := H3.out.b4
      have y3 := H3.out.bz 3
      have y4 := H3.out.bz 4
      simp only [Exit.then]
      go_wp2_with fail
      exact HQ.out _ _ rfl ⟨_, H3.out.setB3, C3.out.setCell (p := ⟨B, 3, none⟩) (fun _ => .inl rfl) _, rfl⟩

set_option maxRecDepth 100000 in
set_option maxHeartbeats 4000000 in
theorem fill_some {w : World} {B F S : Nat} {s : ByteArray} {i r : Nat} {lb : Int} {v : Value} (H : Hid (BioAt w B F S s i r r lb)) (hr : r ≤ i) (hs4 : s.size < 4096) (hi : i < s.size) :
    Calls Tryd.prog 53 #[ptr B] w fun e w' => e = .returned (.tuple #[]) ∧ BioAt w' B F S s i 0 (s.size - i) lb ∧ Ch (Tb B F S) w w' := by
  have b0 := H.out.b0
  have b2 := H.out.b2
  have b3 := H.out.b3
  have z2 := H.out.bz 2
  have z3 := H.out.bz 3
  by_cases h0 : r = 0
  · subst h0
    have g0 : ¬ ((0 : Nat) : Int) > 0 := by simp
    go_enter Tryd.func53, Tryd.ntmps53
    go_wp2_with fail
    go_quiet (fail)
    go_wp2_with fail
    refine loop_some (v := v) (Lib.hid (H.out.moved ((Ch.refl _ _).drewN _))) hs4 hi ?_
    rintro a' w' hd ⟨h1, h2⟩
    simp (config := { zetaDelta := true }) only [Exit.jump, Exit.inBlock, Exit.then]
    refine bodyPost_ret (results_none rfl _ _ _) hd ?_
    exact ⟨rfl, h1, ((Ch.refl _ _).drewN _).trans h2⟩
  · have g0 : (0 : Int) < (r : Int) := by omega
    have hi4 : r < 4096 := by omega
    go_enter Tryd.func53, Tryd.ntmps53
    go_wp2_with fail
    refine fill_r1 (F := F) b0 b2 b3 hi4 ?_
    intro w1 _ _ _ _ _ _ _ _ _ _ _ _ _ _ _ _ _ _ hw1
    have H1 : Hid (BioAt w1 B F S s i r r lb) := by
      rcases hw1 with rfl | rfl
      · exact H
      · exact Lib.hid H.out.drew
    have C1 : Hid (Ch (Tb B F S) w w1) := by
      rcases hw1 with rfl | rfl
      · exact Lib.hid (Ch.refl _ _)
      · exact Lib.hid (Ch.refl _ _).drew
    clear hw1
    simp only [Exit.then]
    go_wp2_with fail
    refine fill_r2 (B := B) (r := r) H1.out.b2 H1.out.b3 (H1.out.bz 3) ?_
    intro w2 _ _ _ _ _ _ _ _ _ _ _ hw2
    have H2 : Hid (BioAt (w2.setCell ⟨B, 2, none⟩ (.int .i64 0)) B F S s i 0 0 lb) := by
      rcases hw2 with rfl | rfl | rfl
      · exact Lib.hid H1.out.reset
      · exact Lib.hid (H1.out.reset.drew)
      · exact Lib.hid (H1.out.drew.reset)
    have C2 : Hid (Ch (Tb B F S) w w2) := by
      rcases hw2 with rfl | rfl | rfl
      · exact Lib.hid (C1.out.setCell (p := ⟨B, 3, none⟩) (fun _ => .inl rfl) _)
      · exact Lib.hid (C1.out.setCell (p := ⟨B, 3, none⟩) (fun _ => .inl rfl) _).drew
      · exact Lib.hid (C1.out.drew.setCell (p := ⟨B, 3, none⟩) (fun _ => .inl rfl) _)
    have e2 : w2.cell? ⟨B, 2, none⟩ = some (.int .i64 r) := by
      rcases hw2 with rfl | rfl | rfl
      · exact co H1.out.b2 (addr_ne (by decide))
      · exact co H1.out.b2 (addr_ne (by decide))
      · exact co H1.out.b2 (addr_ne (by decide))
    have x2 : w2.frozen? ⟨B, 2, none⟩ = false := by
      rcases hw2 with rfl | rfl | rfl
      · rw [World.frozen?_setCell]; exact H1.out.bz 2
      · show (World.setCell _ _ _).frozen? _ = _; rw [World.frozen?_setCell]; exact H1.out.bz 2
      · rw [World.frozen?_setCell]; exact H1.out.bz 2
    clear hw2
    have e0 := H2.out.b0
    have e3 := H2.out.b3
    simp only [Exit.then]
    go_wp2_with fail
    go_quiet (fail)
    go_wp2_with fail
    refine loop_some (v := v) (Lib.hid (H2.out.moved ((Ch.refl _ _).drewN _))) hs4 hi ?_
    rintro a' w' hd ⟨h1, h2⟩
    simp (config := { zetaDelta := true }) only [Exit.jump, Exit.inBlock, Exit.then]
    refine bodyPost_ret (results_none rfl _ _ _) hd ?_
    have C3 := ((C2.out.setCell (p := ⟨B, 2, none⟩) (fun _ => .inl rfl) (.int .i64 0)).drewN _).trans h2
    exact ⟨rfl, h1, C3⟩

set_option maxRecDepth 100000 in
set_option maxHeartbeats 4000000 in
theorem fill_eof {w : World} {B F S : Nat} {s : ByteArray} {r : Nat} {lb : Int} {X : Addr} (H : Hid (BioAt w B F S s s.size r r lb)) (hr : r ≤ s.size) (hs4 : s.size < 4096) (he : w.cell? ⟨2, 0, none⟩ = some (eofv X)) (n2 : ¬ 2 = B) :
    Calls Tryd.prog 53 #[ptr B] w fun e w' => e = .returned (.tuple #[]) ∧ ∃ w2, BioAt w2 B F S s s.size 0 0 lb ∧ Ch (Tb B F S) w w2 ∧ w' = w2.setCell ⟨B, 4, none⟩ (eofv X) := by
  have b0 := H.out.b0
  have b2 := H.out.b2
  have b3 := H.out.b3
  have z2 := H.out.bz 2
  have z3 := H.out.bz 3
  by_cases h0 : r = 0
  · subst h0
    have g0 : ¬ ((0 : Nat) : Int) > 0 := by simp
    go_enter Tryd.func53, Tryd.ntmps53
    go_wp2_with fail
    go_quiet (fail)
    go_wp2_with fail
    refine loop_eof (X := X) (Lib.hid (H.out.moved ((Ch.refl _ _).drewN _))) hs4 he ?_
    rintro a' w' hd ⟨w2, h1, h2, h3⟩
    simp (config := { zetaDelta := true }) only [Exit.jump, Exit.inBlock, Exit.then]
    refine bodyPost_ret (results_none rfl _ _ _) hd ?_
    exact ⟨rfl, w2, h1, ((Ch.refl _ _).drewN _).trans h2, h3⟩
  · have g0 : (0 : Int) < (r : Int) := by omega
    have hi4 : r < 4096 := by omega
    go_enter Tryd.func53, Tryd.ntmps53
    go_wp2_with fail
    refine fill_r1 (F := F) b0 b2 b3 hi4 ?_
    intro w1 _ _ _ _ _ _ _ _ _ _ _ _ _ _ _ _ _ _ hw1
    have H1 : Hid (BioAt w1 B F S s s.size r r lb) := by
      rcases hw1 with rfl | rfl
      · exact H
      · exact Lib.hid H.out.drew
    have C1 : Hid (Ch (Tb B F S) w w1) := by
      rcases hw1 with rfl | rfl
      · exact Lib.hid (Ch.refl _ _)
      · exact Lib.hid (Ch.refl _ _).drew
    have HE1 : w1.cell? ⟨2, 0, none⟩ = some (eofv X) := by rcases hw1 with rfl | rfl <;> exact he
    clear hw1
    simp only [Exit.then]
    go_wp2_with fail
    refine fill_r2 (B := B) (r := r) H1.out.b2 H1.out.b3 (H1.out.bz 3) ?_
    intro w2 _ _ _ _ _ _ _ _ _ _ _ hw2
    have H2 : Hid (BioAt (w2.setCell ⟨B, 2, none⟩ (.int .i64 0)) B F S s s.size 0 0 lb) := by
      rcases hw2 with rfl | rfl | rfl
      · exact Lib.hid H1.out.reset
      · exact Lib.hid (H1.out.reset.drew)
      · exact Lib.hid (H1.out.drew.reset)
    have C2 : Hid (Ch (Tb B F S) w w2) := by
      rcases hw2 with rfl | rfl | rfl
      · exact Lib.hid (C1.out.setCell (p := ⟨B, 3, none⟩) (fun _ => .inl rfl) _)
      · exact Lib.hid (C1.out.setCell (p := ⟨B, 3, none⟩) (fun _ => .inl rfl) _).drew
      · exact Lib.hid (C1.out.drew.setCell (p := ⟨B, 3, none⟩) (fun _ => .inl rfl) _)
    have e2 : w2.cell? ⟨B, 2, none⟩ = some (.int .i64 r) := by
      rcases hw2 with rfl | rfl | rfl
      · exact co H1.out.b2 (addr_ne (by decide))
      · exact co H1.out.b2 (addr_ne (by decide))
      · exact co H1.out.b2 (addr_ne (by decide))
    have x2 : w2.frozen? ⟨B, 2, none⟩ = false := by
      rcases hw2 with rfl | rfl | rfl
      · rw [World.frozen?_setCell]; exact H1.out.bz 2
      · show (World.setCell _ _ _).frozen? _ = _; rw [World.frozen?_setCell]; exact H1.out.bz 2
      · rw [World.frozen?_setCell]; exact H1.out.bz 2
    have n2' : ∀ j, ¬ (⟨B, j, none⟩ : Addr) = ⟨2, 0, none⟩ := fun j e => n2 (congrArg Addr.block e).symm
    have HE2 : (w2.setCell ⟨B, 2, none⟩ (.int .i64 0)).cell? ⟨2, 0, none⟩ = some (eofv X) := by
      refine co ?_ (n2' 2)
      rcases hw2 with rfl | rfl | rfl <;> exact co HE1 (n2' 3)
    clear hw2
    have e0 := H2.out.b0
    have e3 := H2.out.b3
    simp only [Exit.then]
    go_wp2_with fail
    go_quiet (fail)
    go_wp2_with fail
    refine loop_eof (X := X) (Lib.hid (H2.out.moved ((Ch.refl _ _).drewN _))) hs4 HE2 ?_
    rintro a' w' hd ⟨w5, h1, h2, h3⟩
    simp (config := { zetaDelta := true }) only [Exit.jump, Exit.inBlock, Exit.then]
    refine bodyPost_ret (results_none rfl _ _ _) hd ?_
    have C3 := ((C2.out.setCell (p := ⟨B, 2, none⟩) (fun _ => .inl rfl) (.int .i64 0)).drewN _).trans h2
    exact ⟨rfl, w5, h1, C3, h3⟩

end Go.Proofs.YtbgjjbffpckimaaDoor
