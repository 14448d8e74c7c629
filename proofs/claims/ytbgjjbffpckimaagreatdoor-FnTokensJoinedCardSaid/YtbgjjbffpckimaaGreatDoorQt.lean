/-
  The tokens of a text: two texts.
-/
import Derived.Test.YtbgjjbffpckimaaGreatDoorQs
import Derived.Laws.AppendOwnNone
namespace Go.Proofs.YtbgjjbffpckimaaGreatDoor
set_option linter.all false
open Go.RowKit

/-- Cells of tokens of the same kinds and texts. -/
inductive SameKT : List Value → List Value → Prop
  | nil : SameKT [] []
  | cons {xs ys : List Value} (k : Int) (s : ByteArray) (l1 l2 : Int) (h : SameKT xs ys) : SameKT (.int .i64 k :: .string s :: .int .i64 l1 :: xs) (.int .i64 k :: .string s :: .int .i64 l2 :: ys)
theorem SameKT.get {xs ys : List Value} (h : SameKT xs ys) : ∀ {k : Nat}, k * 3 < xs.length → ∃ (kd : Int) (s : ByteArray) (l1 l2 : Int), xs[k * 3]? = some (.int .i64 kd) ∧ xs[k * 3 + 1]? = some (.string s) ∧ xs[k * 3 + 2]? = some (.int .i64 l1) ∧ ys[k * 3]? = some (.int .i64 kd) ∧ ys[k * 3 + 1]? = some (.string s) ∧ ys[k * 3 + 2]? = some (.int .i64 l2) := by
  induction h with
  | nil => intro k hk; exact absurd hk (Nat.not_lt_zero _)
  | cons kd s l1 l2 h ih =>
    intro k hk
    cases k with
    | zero => exact ⟨kd, s, l1, l2, rfl, rfl, rfl, rfl, rfl, rfl⟩
    | succ k =>
      obtain ⟨kd', s', l1', l2', a0, a1, a2, b0, b1, b2⟩ := ih (k := k) (by simp only [List.length_cons] at hk; omega)
      have e : (k + 1) * 3 = k * 3 + 3 := by omega
      rw [e]
      exact ⟨kd', s', l1', l2', by simpa using a0, by simpa [Nat.add_right_comm] using a1, by simpa [Nat.add_right_comm] using a2, by simpa using b0, by simpa [Nat.add_right_comm] using b1, by simpa [Nat.add_right_comm] using b2⟩
theorem SameKT.app {xs ys xs' ys' : List Value} (h : SameKT xs ys) (h' : SameKT xs' ys') : SameKT (xs ++ xs') (ys ++ ys') := by
  induction h with
  | nil => exact h'
  | cons kd s l1 l2 h ih => exact SameKT.cons kd s l1 l2 ih
theorem SameKT.toks (C1 C2 : Int) (z : Bs) : ∀ ts : List (Tok × Bs), SameKT (tokCells C1 (ts.map fun p => (p.1, p.2 ++ z))) (tokCells C2 ts)
  | [] => SameKT.nil
  | (t, a) :: ts => SameKT.cons _ _ _ _ (SameKT.toks C1 C2 z ts)
theorem SameKT.toks' (C1 C2 : Int) : ∀ ts : List (Tok × Bs), SameKT (tokCells C1 ts) (tokCells C2 ts)
  | [] => SameKT.nil
  | (t, a) :: ts => SameKT.cons _ _ _ _ (SameKT.toks' C1 C2 ts)
theorem tokCells_one (C : Int) : ∀ (ts : List (Tok × Bs)), ∀ u ∈ tokCells C ts, u.oneCell' = true
  | [], u, h => by cases h
  | (t, a) :: ts, u, h => by
    rw [tokCells] at h
    simp only [List.mem_cons] at h
    rcases h with rfl | rfl | rfl | h
    · rfl
    · rfl
    · rfl
    · exact tokCells_one C ts u h
theorem grown_refl (w : World) (row : Option Nat) : w.grownBy w row := ⟨rfl, rfl, rfl, Nat.le_refl _, fun _ _ _ => rfl⟩

/-- append of a row that a value owns, nil or not, at 'Oper.wp'. -/
theorem wp_append_row {P : Program} {w : World} {o : Oper} {a : Act} {K : Act → World → Prop} {Q : Exit → Act → World → Prop} (s x : Operand) (t : TypeId)
    (ho : o.op = .call { callee := .builtin .append, args := #[s, x], argTypes := #[t, t] })
    (base : Nat) (e : TypeId) (i : TypeInfo) (z : Value) (size bytes : Nat) (ht : P.underlying t = some (.slice e)) (hi : P.info? e = some i) (hz : i.zero = some z)
    (hsize : i.size = size) (hby : i.bytes = bytes) (hzs : z.cells.size = size) (hsz : 0 < size)
    (v : Value) (n : Nat) (xs : List Value) (hs : a.eval s = v) (hown : w.ownsRow base e size v n xs)
    (vx : Value) (b2 m : Nat) (news : List Value) (hx : a.eval x = vx) (hrow : w.ownsRow b2 e size vx m news) (h1 : ∀ u ∈ news, u.oneCell' = true)
    (h63 : n + m ≤ maxLen) (hbytes : (n + m) * bytes ≤ 140737488355328) (hbase : base ≤ w.heap.size)
    (h : ∀ v' w', w'.ownsRow base e size v' (n + m) (xs ++ news) → w.grownBy w' v.ownBlock → K (a.put o.dst v') w') : o.wp P a w K Q := by
  rcases hrow.2 with ⟨rfl, rfl⟩ | ⟨g, cap, cur, rfl, hb, hg, hn, hc, hs2, htk⟩
  · have hnil : news = [] := List.length_eq_zero_iff.1 (by have := hrow.1; simpa using this)
    subst hnil
    have hrun := run_append_owned_none (P := P) (w := w) base t o.type e i size ht hi v n xs hown
    unfold Oper.wp execOp
    simp only [ho, resolve, invoke, builtin, Sem.run_bind, Sem.run_pure, Result.andThen_ok, List.map_toArray, List.map_cons, List.map_nil, hs, hx, hrun]
    exact h v w (by simpa using hown) (grown_refl _ _)
  · obtain ⟨cur2, hg2, hb2, hn2, hc2, hcell⟩ := row_block hrow
    exact wp_append_own w s x t ho base e i z size bytes ht hi hz hsize hby hzs hsz v n xs hs hown ⟨g, 0, none⟩ m cap news hx hrow.1 (fun j u hu => by
      have hadd : (⟨g, 0, none⟩ : Addr).add j = ⟨g, j, none⟩ := by unfold Addr.add; split <;> simp_all
      rw [hadd]
      exact hcell j u hu) h1 h63 hbytes hbase fun v' w' h2 h3 _ => h v' w' h2 h3

theorem wpList_append_row {P : Program} {w : World} {ops : Array Oper} {rest : List Oper} {o : Oper} {a : Act} {Q : Exit → Act → World → Prop} (hw : Region.wanted o (yielded ops a.tmps) = true) (s x : Operand) (t : TypeId)
    (ho : o.op = .call { callee := .builtin .append, args := #[s, x], argTypes := #[t, t] })
    (base : Nat) (e : TypeId) (i : TypeInfo) (z : Value) (size bytes : Nat) (ht : P.underlying t = some (.slice e)) (hi : P.info? e = some i) (hz : i.zero = some z)
    (hsize : i.size = size) (hby : i.bytes = bytes) (hzs : z.cells.size = size) (hsz : 0 < size)
    (v : Value) (n : Nat) (xs : List Value) (hs : a.eval s = v) (hown : w.ownsRow base e size v n xs)
    (vx : Value) (b2 m : Nat) (news : List Value) (hx : a.eval x = vx) (hrow : w.ownsRow b2 e size vx m news) (h1 : ∀ u ∈ news, u.oneCell' = true)
    (h63 : n + m ≤ maxLen) (hbytes : (n + m) * bytes ≤ 140737488355328) (hbase : base ≤ w.heap.size)
    (h : ∀ v' w', w'.ownsRow base e size v' (n + m) (xs ++ news) → w.grownBy w' v.ownBlock → wpList P ops Q rest (a.put o.dst v') w') : wpList P ops Q (o :: rest) a w :=
  wpList_step fun K hK => by
    rw [if_pos hw]
    exact wp_append_row s x t ho base e i z size bytes ht hi hz hsize hby hzs hsz v n xs hs hown vx b2 m news hx hrow h1 h63 hbytes hbase fun v' w' h2 h3 => hK _ _ (h v' w' h2 h3)

set_option maxRecDepth 100000 in
set_option maxHeartbeats 4000000 in
theorem sameTokens9_calls {w : World} {v1 v2 : Value} {n X1 X2 : Nat} {xs ys : List Value} (h1 : w.ownsRow X1 32 3 v1 n xs) (h2 : w.ownsRow X2 32 3 v2 n ys) (hlen : n ≤ 5000) (hs : SameKT xs ys) :
    Calls Tryz.prog 13 #[v1, v2] w fun e w' => e = .returned (.bool true) ∧ Ch (fun _ => False) w w' := by
  have hxl := h1.1
  obtain ⟨pb1, cap1, g1, rfl, hn1, hm1, hrow1⟩ := row_any h1
  obtain ⟨pb2, cap2, g2, rfl, hn2, hm2, hrow2⟩ := row_any h2
  have HW1 := Lib.hid hrow1
  have HW2 := Lib.hid hrow2
  have HS := Lib.hid hs
  clear h1 h2 hrow1 hrow2 hm1 hm2 hs
  go_enter Tryz.func13, Tryz.ntmps13
  go_wp2_with fail
  go_loopg [14] n (fun m v14 wr => LnRel n m v14 w wr)
  case atStart => exact ⟨0, rfl, Nat.zero_le _, Ch.refl _ _, rfl⟩
  case round =>
    obtain ⟨k, rfl, hk, hc, hm⟩ := hrel
    have HCr := Lib.hid hc
    have HM := Lib.hid hm
    clear hc hm
    by_cases hlt : k < n
    · obtain ⟨rfl, hgl1, _, hcell1⟩ := HW1.out (by omega)
      obtain ⟨rfl, hgl2, _, hcell2⟩ := HW2.out (by omega)
      obtain ⟨kd, st, la, lb, x0, x1, x2, y0, y1, y2⟩ := HS.out.get (k := k) (by omega)
      have c0 := HCr.out.cell_some (hcell1 _ _ x0) id
      have c1 := HCr.out.cell_some (hcell1 _ _ x1) id
      have c2 := HCr.out.cell_some (hcell1 _ _ x2) id
      have d0 := HCr.out.cell_some (hcell2 _ _ y0) id
      have d1 := HCr.out.cell_some (hcell2 _ _ y1) id
      have d2 := HCr.out.cell_some (hcell2 _ _ y2) id
      have l1 : g1 < wr.heap.size := Nat.lt_of_lt_of_le hgl1 HCr.out.size
      have l2 : g2 < wr.heap.size := Nat.lt_of_lt_of_le hgl2 HCr.out.size
      clear x0 x1 x2 y0 y1 y2 hcell1 hcell2
      go_wp2_with fail
      go_quiet (fail)
      go_wp2_with fail
      have hgk : n - (k + 1) < gk := by have := HM.out; omega
      go_roundg (n - (k + 1))
      case measure => omega
      case rel => exact ⟨k + 1, rfl, hlt, (HCr.out.alloc _).drewN _, rfl⟩
    · go_wp2_with fail
      go_ret
      exact ⟨rfl, HCr.out⟩
end Go.Proofs.YtbgjjbffpckimaaGreatDoor

namespace Go.Proofs.YtbgjjbffpckimaaGreatDoor
set_option linter.all false
open Go.RowKit

theorem join_list (s1 s2 : ByteArray) : (s1 ++ ⟨#[10]⟩ ++ s2).data.toList = s1.data.toList ++ 10 :: s2.data.toList := by
  simp
theorem join_size (s1 s2 : ByteArray) : (s1 ++ ⟨#[10]⟩ ++ s2).size = s1.size + 1 + s2.size := by
  have h1 := join_list s1 s2
  have h2 := congrArg List.length h1
  have e1 : (s1 ++ ⟨#[10]⟩ ++ s2).data.toList.length = (s1 ++ ⟨#[10]⟩ ++ s2).size := Array.length_toList
  have e2 : s1.data.toList.length = s1.size := Array.length_toList
  have e3 : s2.data.toList.length = s2.size := Array.length_toList
  rw [List.length_append, List.length_cons] at h2
  omega

set_option maxRecDepth 100000 in
set_option maxHeartbeats 4000000 in
theorem fnJoined_calls {w : World} {E : Addr} {bm : Nat} {obj : Obj} {s1 s2 : ByteArray} (H : Hid (Wld w E bm obj)) :
    Calls Tryz.prog 6 #[.string s1, .string s2] w fun e w' => e = .returned (.bool true) ∧ Ch (fun _ => False) w w' := by
  obtain ⟨i0, hi0, hz0, hz1, hz2⟩ := info_parts Tryz.info32
  have I0 := Lib.hid hi0
  have Z0 := Lib.hid hz0
  have Z1 := Lib.hid hz1
  have Z2 := Lib.hid hz2
  clear hi0 hz0 hz1 hz2
  go_enter Tryz.func6, Tryz.ntmps6
  by_cases hza : decide ((2147483647 : Int) < (s1.size : Int)) = true
  · go_wp2_with fail
    go_ret
    exact ⟨rfl, Ch.refl _ _⟩
  have hza2 : decide ((2147483647 : Int) < (s1.size : Int)) = false := by simpa using hza
  clear hza
  by_cases hzb : decide ((2147483647 : Int) < (s2.size : Int)) = true
  · go_wp2_with fail
    go_ret
    exact ⟨rfl, Ch.refl _ _⟩
  have hzb2 : decide ((2147483647 : Int) < (s2.size : Int)) = false := by simpa using hzb
  clear hzb
  have hl1 : (9223372036854775807 < s1.size + 1) = False := eq_false (by have := of_decide_eq_false hza2; omega)
  have hl2 : (9223372036854775807 < s1.size + 1 + s2.size) = False := eq_false (by have := of_decide_eq_false hza2; have := of_decide_eq_false hzb2; omega)
  go_wp2_with fail
  refine lexemes_calls.mono ?_
  intro e w1 hp
  obtain ⟨hc, va, cda, rfl, hra⟩ := hp
  have HC1 := Lib.hid hc
  have HRa := Lib.hid hra
  clear hc hra
  simp only []
  go_wp2_with fail
  refine lexemes_calls.mono ?_
  intro e w2 hp
  obtain ⟨hc, vb, cdb, rfl, hrb⟩ := hp
  have HC2 := Lib.hid (HC1.out.trans hc)
  have HRb := Lib.hid hrb
  clear hc hrb HC1
  simp only []
  go_wp2_with fail
  refine lexemes_calls.mono ?_
  intro e w3 hp
  obtain ⟨hc, vc, cdc, rfl, hrc⟩ := hp
  have HC3 := Lib.hid (HC2.out.trans hc)
  have HRc := Lib.hid hrc
  clear hc hrc HC2
  simp only []
  by_cases ha0 : cda = 0
  rotate_left
  · have g : (cda != 0) = true := by simpa using ha0
    clear ha0
    go_wp2_with fail
    go_ret
    exact ⟨rfl, HC3.out⟩
  have ga : (cda != 0) = false := by simpa using ha0
  by_cases hb0 : cdb = 0
  rotate_left
  · have g : (cdb != 0) = true := by simpa using hb0
    clear hb0 ha0
    go_wp2_with fail
    go_ret
    exact ⟨rfl, HC3.out⟩
  have gb : (cdb != 0) = false := by simpa using hb0
  by_cases hc2 : cdc = 2
  · have g : (cdc == 2) = true := by simpa using hc2
    clear hb0 ha0 hc2
    go_wp2_with fail
    go_ret
    exact ⟨rfl, HC3.out⟩
  have gc : (cdc == 2) = false := by simpa using hc2
  obtain ⟨hopa, hsza, tsa, ⟨h, _⟩ | ⟨_, hlxa, htla, _⟩⟩ : opened s1.data.toList = false ∧ s1.size ≤ 2000 ∧ ∃ ts, _ := HRa.out.resolve_left (fun h => by omega)
  · omega
  obtain ⟨hopb, hszb, tsb, ⟨h, _⟩ | ⟨_, hlxb, htlb, _⟩⟩ : opened s2.data.toList = false ∧ s2.size ≤ 2000 ∧ ∃ ts, _ := HRb.out.resolve_left (fun h => by omega)
  · omega
  obtain ⟨hopc, hszc, _⟩ := HRc.out.resolve_left hc2
  have hlxj := Lx.joined (b := s2.data.toList) (Lx.ws (c := 10) (by decide) hlxb) hlxa rfl
  rw [← join_list] at hlxj
  have HLA := Lib.hid hlxa
  have HLB := Lib.hid hlxb
  have HLJ := Lib.hid hlxj
  have HNA := Lib.hid (opened_no hopa).2
  have HNB := Lib.hid (opened_no hopb).2
  have HNJ := Lib.hid (opened_no hopc).2
  have HSA : Hid (s1.size < 4096) := Lib.hid (by omega)
  have HSB : Hid (s2.size < 4096) := Lib.hid (by omega)
  have HSJ : Hid ((s1 ++ ⟨#[10]⟩ ++ s2).size < 4096) := Lib.hid (by omega)
  clear ha0 hb0 hc2 hlxa hlxb hlxj hopa hopb hopc hsza hszb hszc HRa HRb HRc
  go_wp2_with fail
  refine (tokens_calls (Lib.hid (H.out.moved HC3.out)) HLA.out (by decide) HNA.out HSA.out).mono ?_
  rintro e w4 (⟨_, va, rfl, ho, hc⟩ | ⟨h0, _⟩)
  rotate_left
  · exact absurd rfl h0
  have HOA := Lib.hid ho
  have HC4 := Lib.hid (HC3.out.trans hc)
  clear ho hc HC3
  simp only []
  go_wp2_with fail
  refine (tokens_calls (Lib.hid (H.out.moved HC4.out)) HLB.out (by decide) HNB.out HSB.out).mono ?_
  rintro e w5 (⟨_, vb, rfl, ho, hc⟩ | ⟨h0, _⟩)
  rotate_left
  · exact absurd rfl h0
  have HOB := Lib.hid ho
  have HOA5 := Lib.hid (hc.owns HOA.out fun _ _ => id)
  have HC5 := Lib.hid (HC4.out.trans hc)
  clear ho hc HC4 HOA
  simp only []
  go_wp2_with fail
  refine (tokens_calls (Lib.hid (H.out.moved HC5.out)) HLJ.out (by decide) HNJ.out HSJ.out).mono ?_
  rintro e w6 (⟨_, vj, rfl, ho, hc⟩ | ⟨h0, _⟩)
  rotate_left
  · exact absurd rfl h0
  have HOJ := Lib.hid ho
  have HOA6 := Lib.hid (hc.owns HOA5.out fun _ _ => id)
  have HOB6 := Lib.hid (hc.owns HOB.out fun _ _ => id)
  have HC6 := Lib.hid (HC5.out.trans hc)
  clear ho hc HC5 HOA5 HOB
  simp only []
  have HX0 : Hid ((w6.alloc (.cells #[] 32)).ownsRow w6.heap.size 32 3 (.slice (some ⟨w6.heap.size, 0, none⟩) 0 0) 0 []) := Lib.hid (World.ownsRow_lit (e := 32) (size := 3) (base := w6.heap.size) w6 #[] 0 (by simp) (by unfold maxLen; omega) rfl)
  have HOA7 := Lib.hid (HOA6.out.alloc (.cells #[] 32))
  have HJ7 := Lib.hid (HOJ.out.alloc (.cells #[] 32))
  have HB7 := Lib.hid (HOB6.out.alloc (.cells #[] 32))
  have HC7 : Hid (Ch (fun i => w6.heap.size ≤ i) w6 (w6.alloc (.cells #[] 32))) := Lib.hid ((Ch.refl _ _).alloc _)
  have hAlt : ∀ k, va.ownBlock = some k → k < w6.heap.size := fun k hk => (HOA6.out.lt k hk).2
  have hBlt : ∀ k, vb.ownBlock = some k → k < w6.heap.size := fun k hk => (HOB6.out.lt k hk).2
  have hJlt : ∀ k, vj.ownBlock = some k → k < w6.heap.size := fun k hk => (HOJ.out.lt k hk).2
  have HAL := Lib.hid hAlt
  have HBL := Lib.hid hBlt
  have HJL := Lib.hid hJlt
  clear hAlt hBlt hJlt
  go_wp2_with (at_builtin; first
    | (refine wpList_append_row rfl (.tmp 80) (.tmp 81) 25 rfl w6.heap.size 32 i0 _ 3 32 Tryz.underlying25 I0.out Z0.out Z1.out Z2.out rfl (by omega) (.slice (some ⟨w6.heap.size, 0, none⟩) 0 0) 0 [] rfl HX0.out va _ tsa.length (tokCells (1 + nl s1.data.toList) tsa) rfl HOA7.out (tokCells_one _ _) (by unfold maxLen; omega) (by omega) (by simp) ?_
       intro v8 w8 ho8 hg8
       have hc8 : Ch (fun i => w6.heap.size ≤ i) w6 w8 := Ch.grown HC7.out hg8 (fun k hk _ => Nat.le_of_eq (Option.some.inj hk))
       have HO8 := Lib.hid ho8
       have HB8 := Lib.hid (hc8.owns HOB6.out (fun k hk e => by have := HBL.out k hk; omega))
       have HJ8 := Lib.hid (hc8.owns HOJ.out (fun k hk e => by have := HJL.out k hk; omega))
       have HC8 := Lib.hid hc8
       have hs8 : w6.heap.size ≤ w8.heap.size := hc8.size
       clear ho8 hg8 hc8 HX0 HOA7 HJ7 HB7 HC7)
    | (refine wpList_append_row rfl (.tmp 82) (.tmp 83) 25 rfl w6.heap.size 32 i0 _ 3 32 Tryz.underlying25 I0.out Z0.out Z1.out Z2.out rfl (by omega) v8 (0 + tsa.length) _ rfl HO8.out vb _ tsb.length (tokCells (1 + nl s2.data.toList) tsb) rfl HB8.out (tokCells_one _ _) (by unfold maxLen; omega) (by omega) hs8 ?_
       intro v9 w9 ho9 hg9
       have hc9 : Ch (fun i => w6.heap.size ≤ i) w6 w9 := Ch.grown HC8.out hg9 (fun k hk _ => (HO8.out.lt k hk).1)
       have HO9 := Lib.hid ho9
       have HJ9 := Lib.hid (hc9.owns HOJ.out (fun k hk e => by have := HJL.out k hk; omega))
       have HC9 := Lib.hid hc9
       clear ho9 hg9 hc9 HO8 HB8 HJ8 HC8))
  have hlen : (List.map (fun p : Tok × Bs => (p.1, p.2 ++ 10 :: s2.data.toList)) tsa ++ tsb).length = 0 + tsa.length + tsb.length := by simp
  have hj := HJ9.out
  rw [hlen] at hj
  have hsame := (SameKT.toks (1 + nl (s1 ++ ⟨#[10]⟩ ++ s2).data.toList) (1 + nl s1.data.toList) (10 :: s2.data.toList) tsa).app (SameKT.toks' (1 + nl (s1 ++ ⟨#[10]⟩ ++ s2).data.toList) (1 + nl s2.data.toList) tsb)
  rw [← tokCells_app] at hsame
  refine (sameTokens9_calls hj HO9.out (by omega) hsame).mono ?_
  rintro e wz ⟨rfl, hcz⟩
  have HCZ := Lib.hid ((HC6.out.trans' HC9.out (fun i hi h => by have := HC6.out.size; omega)).trans hcz)
  clear hcz hj hsame hlen
  simp only []
  go_wp2_with fail
  go_ret
  exact ⟨rfl, HCZ.out⟩
end Go.Proofs.YtbgjjbffpckimaaGreatDoor
