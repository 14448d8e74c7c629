/-
  spec.ptReader: the items of \x01(.+)%1\x02. Lines laid by a program of this session (mkrdr2.py).
-/
import Derived.Test.YtkbdngcbifonkaaFmtRdr
namespace Go.Proofs.YtkbdngcbifonkaaFmt
set_option linter.all false
open Go.RowKit

theorem Tryf.info3 : (Tryf.prog.info? 3).map (fun i => (i.zero, i.size, i.bytes)) = some (some (.int .i64 0), 1, 8) := by kernel_rfl

noncomputable def reg41 (id : Nat) : Code := (rgc id (Tryf.f41.body.getD .skip)).getD .skip

set_option maxRecDepth 100000 in
set_option maxHeartbeats 4000000 in
theorem isopen_calls {w0 w : World} {R k cp n c oc : Nat} {oB : Option Addr} {go : Option Nat} {us : List Value} {ds : List (Nat × (Nat → Bool))} {B : Option Addr} {i : Int} (HR : Hid (RdAt w0 R k cp (.slice oB 0 oc) go n us ds w B c)) :
    Calls Tryf.prog 62 #[ptr R, .int .i64 i] w fun e w' => e = .returned (.bool false) ∧ w = w' := by
  have q0 := HR.out.c2
  go_enter Tryf.func62, Tryf.ntmps62
  go_wp2_with fail
  refine wp_loop_rounds 1 ?_
  rw [rounds_succ]
  go_wp2_with fail
  go_ret
  exact ⟨rfl, rfl⟩

set_option maxRecDepth 100000 in
set_option maxHeartbeats 4000000 in
theorem special_no {w0 w : World} {R k cp n c : Nat} {o : Value} {go : Option Nat} {us : List Value} {ds : List (Nat × (Nat → Bool))} {B : Option Addr} {b : UInt8} (HR : Hid (RdAt w0 R k cp o go n us ds w B c)) (hk : k < 8) (hb : (⟨#[1, 40, 46, 43, 41, 37, 49, 2]⟩ : ByteArray)[k]'hk = b) (h37 : ((b.toNat : Int) != 37) = true) :
    Calls Tryf.prog 44 #[ptr R] w fun e w' => e = .returned (.tuple #[.bool false, .bool true]) ∧ Ch (fun _ => False) w w' := by
  have q0 := HR.out.c0
  have q1 := HR.out.c1
  have hk0 : (0 : Int) ≤ k := by omega
  have hk1 : (k : Int) < 8 := by omega
  go_enter Tryf.func44, Tryf.ntmps44
  go_wp2_with fail
  go_quiet (fail)
  simp only [Exit.then]
  go_wp2_with fail
  refine bodyPost_ret (results_tmp2 rfl _ _ _) rfl ?_
  exact ⟨rfl, (Ch.refl _ _).drewN _⟩

set_option maxRecDepth 100000 in
set_option maxHeartbeats 4000000 in
theorem special_back {w0 w : World} {R n c oc : Nat} {oB : Option Addr} {us : List Value} {ds : List (Nat × (Nat → Bool))} {B : Option Addr} (HR : Hid (RdAt w0 R 5 1 (.slice oB 0 oc) none n us ds w B c)) (hn : n ≤ 100) :
    Calls Tryf.prog 44 #[ptr R] w fun e w' => e = .returned (.tuple #[.bool true, .bool true]) ∧ ∃ B' c', RdAt w0 R 7 1 (.slice oB 0 oc) none (n + 1) (us ++ itemCells 5 none 0 0 0 1) ds w' B' c' := by
  have q0 := HR.out.c0
  have q1 := HR.out.c1
  have q5 := HR.out.c5
  have HDI : Hid (∀ w1, Calls Tryf.prog 31 #[.int .u8 49] w1 fun e w' => w1 = w' ∧ e = .returned (.bool true)) := Lib.hid fun w1 => digit_calls w1 49
  go_enter Tryf.func44, Tryf.ntmps44
  go_wp2_with fail
  go_quiet (fail)
  simp only [Exit.then]
  go_wp2_with fail
  go_quiet (fail)
  simp only [Exit.then]
  go_wp2_with fail
  refine (HDI.out _).mono ?_
  rintro e w1 ⟨rfl, rfl⟩
  simp only []
  go_wp2_with fail
  refine (isopen_calls (Lib.hid (HR.out.moved ((Ch.refl _ _).drewN _)))).mono ?_
  rintro e w1 ⟨rfl, rfl⟩
  simp only []
  go_wp2_with fail
  refine (add_calls (far := 2) (Lib.hid (HR.out.moved ((Ch.refl _ _).drewN _))) hn (by omega) (by omega)).mono ?_
  rintro e w1 ⟨rfl, B', c', hr⟩
  simp only []
  go_wp2_with fail
  refine bodyPost_ret (results_tmp2 rfl _ _ _) rfl ?_
  exact ⟨rfl, B', c', hr⟩

set_option maxRecDepth 100000 in
set_option maxHeartbeats 4000000 in
theorem open_reg {w0 w : World} {R n c : Nat} {us : List Value} {ds : List (Nat × (Nat → Bool))} {B : Option Addr} {Q : Exit → Act → World → Prop} {u1 u2 u3 u4 u5 u6 u7 u8 u9 u10 u11 u12 u13 u14 u15 u16 u17 u18 u19 u20 u21 u22 u23 u24 u25 u26 u27 u28 u29 u30 u31 u32 u33 u34 u35 u36 u37 u38 u39 u40 u41 u42 u43 u44 u45 u46 u47 u48 u49 u50 u51 u52 u53 u54 u55 u56 u57 u58 u59 u60 u61 u62 u63 u64 u65 u66 u67 u68 u69 u70 u71 : Value} (HR : Hid (RdAt w0 R 1 1 (.slice none 0 0) none n us ds w B c))
    (hQ : ∀ (w' : World) (g c2 : Nat) (y50 y51 y52 y53 y54 y55 y56 y57 y58 y59 y60 y61 y62 y63 : Value), 1 ≤ c2 → RdAt w0 R 1 1 (.slice (some ⟨g, 0, none⟩) 1 c2) (some g) n us ds w' B c → Q .normal { tmps := #[ptr R, u1, u2, u3, u4, u5, u6, u7, u8, u9, u10, u11, u12, u13, u14, u15, u16, u17, u18, u19, u20, u21, u22, u23, u24, u25, u26, u27, u28, u29, u30, u31, u32, u33, u34, u35, u36, u37, u38, u39, u40, u41, u42, u43, u44, u45, u46, u47, u48, u49, y50, y51, y52, y53, y54, y55, y56, y57, y58, y59, y60, y61, y62, y63, u64, u65, u66, u67, u68, u69, u70, u71], defers := [] } w') :
    (reg41 6).wp Tryf.prog Q { tmps := #[ptr R, u1, u2, u3, u4, u5, u6, u7, u8, u9, u10, u11, u12, u13, u14, u15, u16, u17, u18, u19, u20, u21, u22, u23, u24, u25, u26, u27, u28, u29, u30, u31, u32, u33, u34, u35, u36, u37, u38, u39, u40, u41, u42, u43, u44, u45, u46, u47, u48, u49, u50, u51, u52, u53, u54, u55, u56, u57, u58, u59, u60, u61, u62, u63, u64, u65, u66, u67, u68, u69, u70, u71], defers := [] } w := by
  obtain ⟨i0, hi0, hz0, hz1, hz2⟩ := info_parts Tryf.info3
  have I0 := Lib.hid hi0
  have Z0 := Lib.hid hz0
  have Z1 := Lib.hid hz1
  have Z2 := Lib.hid hz2
  clear hi0 hz0 hz1 hz2
  have q0 := HR.out.c2
  have q5 := HR.out.c5
  have q1 := HR.out.lt
  have q2 := HR.out.fz 2
  have hbs := HR.out.base
  have HQ := Lib.hid hQ
  clear hQ
  conv => arg 2; whnf
  refine wp_region_noPanic ?_
  go_region_law (first
    | (refine step_append_lies _ rfl (.tmp 54) (.tmp 60) 82 rfl w0.heap.size 3 i0 _ 1 8 Tryf.underlying82 I0.out Z0.out Z1.out Z2.out rfl (by omega) _ _ [] rfl (World.ownsRow_nil _ _ _ _) ⟨w.heap.size, 0, none⟩ 1 1 [.int .i64 1] rfl rfl (World.news_of_block (heap_alloc_new w.drew _)) (by intro y hy; simp at hy; subst hy; rfl) (by omega) (by unfold maxLen; omega) (by omega) (by simp; omega) (w.heap.size + 1) (by simp) ?_; intro g' c' w9 hown9 hgrow9 hat9 hlt9
       obtain ⟨r1, d9, f9⟩ : RdAt w0 R 1 1 (.slice (some ⟨g', 0, none⟩) 1 c') (some g') n us ds (w9.setCell ⟨R, 2, none⟩ (.slice (some ⟨g', 0, none⟩) 1 c')) B c ∧ w9.cell? ⟨R, 2, none⟩ = some (.slice none 0 0) ∧ w9.frozen? ⟨R, 2, none⟩ = false := by
         have hg9 : w.heap.size < g' := by
           rcases hat9 with h | h
           · cases h
           · omega
         have hch : Ch (fun _ => False) w w9 := (((Ch.refl _ w).drew.alloc _)).grown hgrow9 (fun k hk _ => by cases hk)
         have hm := HR.out.moved hch
         refine ⟨hm.put 2 _ rfl (by simp) (by simp) (by simp) (.inr (.inl rfl)) (fun g hg => ?_), hm.c2, hm.fz 2⟩
         cases hg
         refine ⟨by have := hown9.cellAt 0 (by omega); simpa using this, by have := HR.out.ch.size; omega, by omega, fun e => by have := (HR.out.blk_lt e).2; omega⟩
       have hcp : 1 ≤ c' := by
         rcases hown9.2 with ⟨h2, _⟩ | ⟨g9, cap9, cur, hv, _, _, hn9, _⟩
         · cases h2
         · cases hv
           simpa using hn9
       have HPUSH := Lib.hid r1
       clear hown9 hgrow9 hat9 hlt9 r1))
  all_goals
    refine NoPanic.normal ?_
    exact HQ.out _ _ _ _ _ _ _ _ _ _ _ _ _ _ _ _ _ hcp HPUSH.out

set_option maxRecDepth 100000 in
set_option maxHeartbeats 4000000 in
theorem capture_rd {w0 w : World} {R n c : Nat} {us : List Value} {ds : List (Nat × (Nat → Bool))} {B : Option Addr} (HR : Hid (RdAt w0 R 1 0 (.slice none 0 0) none n us ds w B c)) (hn : n ≤ 100) :
    Calls Tryf.prog 41 #[ptr R] w fun e w' => e = .returned (.bool true) ∧ ∃ g c2 B' c', 1 ≤ c2 ∧ RdAt w0 R 2 1 (.slice (some ⟨g, 0, none⟩) 1 c2) (some g) (n + 1) (us ++ itemCells 2 none 0 0 0 1) ds w' B' c' := by
  have q0 := HR.out.c0
  have q1 := HR.out.c1
  have q5 := HR.out.c5
  have z5 := HR.out.fz 5
  have zl := HR.out.lt
  have HR2 : Hid (RdAt w0 R 1 1 (.slice none 0 0) none n us ds (w.setCell ⟨R, 5, none⟩ (.int .i64 1)) B c) := Lib.hid (HR.out.put 5 _ rfl (by simp) (by simp) (by simp) (.inr (.inr rfl)) (fun g hg => by cases hg))
  go_enter Tryf.func41, Tryf.ntmps41
  go_wp2_with fail
  go_quiet (fail)
  simp only [Exit.then]
  go_wp2_with fail
  refine open_reg (Lib.hid (HR2.out.moved ((Ch.refl _ _).drewN _))) ?_
  intro w2 g c2 _ _ _ _ _ _ _ _ _ _ _ _ _ _ hcp hr2
  have q6 := hr2.c5
  have HR3 := Lib.hid hr2
  clear hr2 q0 q1 q5 z5
  simp only [Exit.then]
  go_wp2_with fail
  refine (add_calls (far := 1) HR3 hn (by omega) (by omega)).mono ?_
  rintro e w1 ⟨rfl, B', c', hr⟩
  simp only []
  go_wp2_with fail
  go_ret
  exact ⟨rfl, _, _, B', c', hcp, hr⟩

set_option maxRecDepth 100000 in
set_option maxHeartbeats 4000000 in
theorem closing_rd {w0 w : World} {R n c : Nat} {us : List Value} {ds : List (Nat × (Nat → Bool))} {B : Option Addr} {g c2 : Nat} (HR : Hid (RdAt w0 R 4 1 (.slice (some ⟨g, 0, none⟩) 1 c2) (some g) n us ds w B c)) (hn : n ≤ 100) (hc2 : 1 ≤ c2) :
    Calls Tryf.prog 42 #[ptr R] w fun e w' => e = .returned (.bool true) ∧ ∃ oB oc B' c', RdAt w0 R 5 1 (.slice oB 0 oc) none (n + 1) (us ++ itemCells 3 none 0 0 0 1) ds w' B' c' := by
  have q0 := HR.out.c2
  have q1 := (HR.out.opn g rfl).1
  have z5 := HR.out.fz 2
  have zl := HR.out.lt
  have hc3 : (1 : Int) ≤ c2 := by omega
  have hc4 : (0 : Int) ≤ c2 := by omega
  have HR2 : Hid (∀ w1 v, w1 = w.setCell ⟨R, 2, none⟩ v → RdAt w0 R 4 1 v none n us ds w1 B c) := Lib.hid fun w1 v hv => HR.out.put 2 _ hv (by simp) (by simp) (by simp) (.inr (.inl rfl)) (fun g hg => by cases hg)
  go_enter Tryf.func42, Tryf.ntmps42
  go_wp2_with fail
  all_goals
    refine (add_calls (far := 1) (Lib.hid (HR2.out _ _ rfl)) hn (by omega) (by omega)).mono ?_
    rintro e w1 ⟨rfl, B', c', hr⟩
    simp only []
    go_wp2_with fail
    go_ret
    exact ⟨rfl, _, _, B', c', hr⟩

end Go.Proofs.YtkbdngcbifonkaaFmt
