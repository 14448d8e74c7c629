/-
  The tokens of a text: what the condition gives.
-/
import Derived.Test.YtbgjjbffpckimaaGreatDoorQr
import Derived.Test.YtbgjjbffpckimaaGreatDoorTie
import Derived.ProofKit
import Derived.LaidMore
import Derived.OpenShut
import Derived.Stop.LaidErr
import Derived.Maps.OwnSet
import Derived.Stop.Joined
import Derived.Carry
import Derived.ChangeOld
import Derived.ChangeVars
import Derived.SevenTiedAt
import Derived.Below
import Derived.ChangeSame
namespace Go.Proofs.YtbgjjbffpckimaaGreatDoor
set_option linter.all false
open Go.ChangeShapes Go.WideShapes Go.ChangeAt Go.RowKit Go.WideElems Go.WideMaps Go.Maps
open Go.ChangeMaps (open_string shut_string)

/-- What the rows list. -/
def lad : List (String × DataW Unit) := [("math/bits.deBruijn32tab", Rows.laid_math_bits_deBruijn32tab), ("math/bits.deBruijn64tab", Rows.laid_math_bits_deBruijn64tab), ("internal/strconv.uint64pow10", Rows.laid_internal_strconv_uint64pow10), ("strconv.ErrRange", Rows.laid_strconv_ErrRange), ("strconv.ErrSyntax", Rows.laid_strconv_ErrSyntax), ("io.EOF", Rows.laid_io_EOF), ("io.ErrNoProgress", Rows.laid_io_ErrNoProgress), ("bytes.ErrTooLarge", Rows.laid_bytes_ErrTooLarge), ("bufio.ErrInvalidUnreadByte", Rows.laid_bufio_ErrInvalidUnreadByte), ("bufio.errNegativeRead", Rows.laid_bufio_errNegativeRead), ("loop.example/pub-g01442/pub/lua/parse.reservedWords", Rows.laid_loop_example_pub_g01442_pub_lua_parse_reservedWords), ("loop.example/pub-g01442/pub/lua/parse.yyToknames", Rows.laid_loop_example_pub_g01442_pub_lua_parse_yyToknames)]

theorem Tryz.gEof : Tryz.prog.globalNamed "io.EOF" = some 2 := by kernel_rfl
theorem Tryz.gEofT : (Tryz.prog.globals[2]?).map (·.type) = some 56 := by kernel_rfl
theorem Tryz.gKw : Tryz.prog.globalNamed "loop.example/pub-g01442/pub/lua/parse.reservedWords" = some 0 := by kernel_rfl
theorem Tryz.gKwT : (Tryz.prog.globals[0]?).map (·.type) = some 85 := by kernel_rfl
theorem Tryz.gYy : Tryz.prog.globalNamed "loop.example/pub-g01442/pub/lua/parse.yyToknames" = some 1 := by kernel_rfl
theorem Tryz.gYyT : (Tryz.prog.globals[1]?).map (·.type) = some 112 := by kernel_rfl
theorem Tryz.cells157 : Tryz.prog.cellsOf 157 = 1 := by kernel_rfl
theorem Tryz.cells9 : Tryz.prog.cellsOf 9 = 1 := by kernel_rfl
theorem Tryz.star : "*" ++ "errors.errorString" = "*errors.errorString" := by decide
theorem Tryz.row155 (u : TypeId) (h : Tryz.prog.typeName? 3 u = some "*errors.errorString") : u = 155 :=
  typeName_ptr_named (nm := "errors.errorString") (by rw [Tryz.star]; kernel_rfl) (by kernel_rfl) (by decide) u (by rw [Tryz.star]; exact h)

theorem kwlaw : Keyed Tryz.prog 9 := string_keyed Tryz.underlying9
theorem zero3 (w : World) : (zeroValue 3).run Tryz.prog w = .ok (.int .i64 0) w := by kernel_rfl

/-- The reserved words as the row lists them. -/
def kwList : List (Bs × Int) := [([97, 110, 100], 57346), ([98, 114, 101, 97, 107], 57347), ([100, 111], 57348), ([101, 108, 115, 101], 57349), ([101, 108, 115, 101, 105, 102], 57350), ([101, 110, 100], 57351), ([102, 97, 108, 115, 101], 57352), ([102, 111, 114], 57353), ([102, 117, 110, 99, 116, 105, 111, 110], 57354), ([103, 111, 116, 111], 57367), ([105, 102], 57355), ([105, 110], 57356), ([108, 111, 99, 97, 108], 57357), ([110, 105, 108], 57358), ([110, 111, 116], 57359), ([111, 114], 57360), ([114, 101, 112, 101, 97, 116], 57362), ([114, 101, 116, 117, 114, 110], 57361), ([116, 104, 101, 110], 57363), ([116, 114, 117, 101], 57364), ([117, 110, 116, 105, 108], 57365), ([119, 104, 105, 108, 101], 57366)]
def kwEn (l : List (Bs × Int)) : List (Lit × DataW Unit) := l.map fun p => (.string p.1, .lit (.int .i64 p.2))
theorem kw_laid : (Rows.laid_loop_example_pub_g01442_pub_lua_parse_reservedWords : DataW Unit) = .map (kwEn kwList) := rfl

theorem has_kw (s : Bs) : ∀ l : List (Bs × Int), Maps.has (.map (kwEn l)) (.string s) = (l.lookup s).isSome
  | [] => rfl
  | (k, v) :: l => by
    have ih := has_kw s l
    rw [Maps.has_eq] at ih ⊢
    rw [kwEn, List.map_cons, List.any_cons, List.lookup_cons]
    show ((k == s) || _) = _
    by_cases h : k = s
    · subst h; simp
    · have h1 : (k == s) = false := by simpa using h
      have h2 : (s == k) = false := by simpa using fun e => h e.symm
      rw [h1, h2]
      simpa [kwEn] using ih
theorem at_kw (s : Bs) : ∀ l : List (Bs × Int), (DataW.map (kwEn l)).atKey (.string s) (.lit (.int .i64 0)) = .lit (.int .i64 ((l.lookup s).getD 0))
  | [] => rfl
  | (k, v) :: l => by
    have ih := at_kw s l
    simp only [DataW.atKey] at ih ⊢
    rw [kwEn, List.map_cons, List.find?_cons, List.lookup_cons]
    have hk : (Lit.string k).sameKey (.string s) = (k == s) := rfl
    rw [hk]
    by_cases h : k = s
    · subst h; simp
    · have h1 : (k == s) = false := by simpa using h
      have h2 : (s == k) = false := by simpa using fun e => h e.symm
      rw [h1, h2]
      exact ih

theorem lkp_none {s : Bs} : ∀ {l : List (Bs × Int)}, s ∉ l.map (·.1) → l.lookup s = none
  | [], _ => rfl
  | (k, v) :: l, h => by
    simp only [List.map_cons, List.mem_cons, not_or] at h
    rw [List.lookup_cons]
    have h2 : (s == k) = false := by simpa using h.1
    rw [h2]
    exact lkp_none h.2
theorem kw_all : ∀ s ∈ kwList.map (·.1), kwTab.lookup s = kwList.lookup s := by decide
theorem kw_sub : ∀ s ∈ kwTab.map (·.1), s ∈ kwList.map (·.1) := by decide
theorem kw_long : ∀ s ∈ kwList.map (·.1), s.length < 100 := by decide
theorem kw_same (s : Bs) : kwTab.lookup s = kwList.lookup s := by
  by_cases h : s ∈ kwList.map (·.1)
  · exact kw_all s h
  · rw [lkp_none h, lkp_none (fun h1 => h (kw_sub s h1))]
theorem kwOf_eq (s : Bs) : kwOf s = ((kwList.lookup s).getD 0, (kwList.lookup s).isSome) := by
  unfold kwOf
  rw [kw_same]
  cases kwList.lookup s <;> rfl

set_option maxRecDepth 100000 in
theorem look_kw {bm n : Nat} {W : World} (hown : W.ownsMap Tryz.prog 9 (plainElem Tryz.prog 3) bm n (.map (kwEn kwList))) (s : Bs) :
    (Instr.lookup 85 (.map (some bm)) (.string ⟨s.toArray⟩) true).run Tryz.prog W = .ok (.tuple #[.int .i64 (kwOf s).1, .bool (kwOf s).2]) W := by
  by_cases hs : (⟨s.toArray⟩ : ByteArray).size ≤ maxLen
  · obtain ⟨v, ps, hrun, hv⟩ := hown.look_ok kwlaw Tryz.underlying85 (zero3 _) (plainElem_int (a := 0) Tryz.underlying3 (by decide)) (keyOf_string_mk Tryz.underlying9 hs)
    rw [hrun, kwOf_eq]
    rw [at_kw] at hv
    rw [has_kw]
    obtain ⟨c, rfl, hc, hwc⟩ := plainElem_int_inv Tryz.underlying3 hv
    have e : (⟨s.toArray⟩ : ByteArray).data.toList = s := by simp
    rw [e] at hc ⊢
    have hc2 : (kwList.lookup s).getD 0 = c := by first | (injection hc with h1; injection h1 with h1 h2) | (have h3 := hc.symm; simp at h3; exact h3.1.symm) | (simp at hc; exact hc.1)
    rw [← hc2]
  · obtain ⟨es, clock, hb, F1, _, _⟩ := hown
    have hks : ∀ x ∈ es.toList, MapKept.IsKey .string x.key ∧ x.key ≠ .string ⟨s.toArray⟩ := fun x hx => by
      obtain ⟨y, hy⟩ := F1.reads x hx
      have hk := rd_key hy
      obtain ⟨s', e, hl, hz⟩ := string_of_keyOf Tryz.underlying9 hk
      rw [e]
      refine ⟨trivial, fun h => ?_⟩
      injection h with h
      subst h
      exact hs (by first | exact hz | exact hl)
    have hfind : (Instr.findKey 9 (.string ⟨s.toArray⟩) es.toList).run Tryz.prog W = .ok none W := by
      rcases MapKept.findNow_spec (d := .string) (k := .string ⟨s.toArray⟩) trivial es.toList 0 (fun x hx => (hks x hx).1) with ⟨h1, h2⟩ | ⟨j, e0, h1, h2, h3⟩
      · exact MapKept.run_findKey Tryz.underlying9 h1
      · exact absurd h3 (hks e0 (List.mem_of_getElem? h2)).2
    have hno : kwList.lookup s = none := lkp_none fun h => hs (by
      have := kw_long s h
      show s.toArray.size ≤ maxLen
      unfold maxLen
      simp
      omega)
    rw [kwOf_eq, hno]
    simp [Instr.lookup, run_underlying Tryz.underlying85, MapKept.run_getObj_map hb, MapKept.run_checkKey (k := .string ⟨s.toArray⟩) Tryz.underlying9 trivial, hfind, zero3, Result.andThen]

theorem yy_ok : (match (Rows.laid_loop_example_pub_g01442_pub_lua_parse_yyToknames : DataW Unit) with
    | .agg l => l.all (fun d => match d with | .lit (.string s) => !s.isEmpty | _ => false)
    | _ => false) = true := by kernel_rfl

set_option maxRecDepth 100000 in
/-- WHAT THE CONDITION GIVES. -/
theorem of_lad {W : World} (h : laidMetH Tryz.prog lad W) : ∃ E bm obj, Wld W E bm obj := by
  rw [MakeChecks.laidMetH_plain _ _ _ (by kernel_rfl)] at h
  have h5 := h.tail.tail.tail.tail.tail
  obtain ⟨a0, sa, hva, _, _, _⟩ := laid_sentinel h5 Tryz.gEof Tryz.gEofT Tryz.underlying56 Tryz.row155 Tryz.underlying155 Tryz.underlying157 rfl rfl Tryz.underlying9 Tryz.cells157 Tryz.cells9
  have h10 := h5.tail.tail.tail.tail.tail
  obtain ⟨ps, ⟨g0, t0, cs0, f0, p0, q0, hg0, ht0, hv0, hd0, ⟨g1, t1, cs1, f1, p1, q1, hg1, ht1, hv1, hd1, _, _⟩, _⟩, _, _⟩ := h10
  obtain rfl := Option.some.inj (Tryz.gKw.symm.trans hg0)
  obtain rfl := Option.some.inj (Tryz.gYy.symm.trans hg1)
  obtain rfl := Option.some.inj (Tryz.gKwT.symm.trans ht0)
  obtain rfl := Option.some.inj (Tryz.gYyT.symm.trans ht1)
  rcases open_map Tryz.underlying85 hd0 with ⟨_, hx⟩ | ⟨bm, es, clock, m, rfl, hcs, hb, _, F, hx⟩
  · rw [kw_laid] at hx
    simp at hx
  simp only [Prod.mk.injEq] at hx
  have hcell : W.cell? ⟨0, 0, none⟩ = some (.map (some bm)) := by
    have := World.var?_cell hg0 hv0 0
    rw [Array.eq_one_of_toList hcs] at this
    simpa using this
  refine ⟨a0, bm, _, ⟨hcell, hb, fun k hk => ?_, fun s W' hb' => ?_⟩, ?_⟩
  · obtain ⟨xs, m1, rfl, hx1, hlen, hn56, hel⟩ := DataW.trod_array Tryz.underlying112 hd1
    have hk' : k < xs.length := by omega
    have h0 := hel k hk
    rw [Tryz.cells9, List.getElem?_eq_getElem hk'] at h0
    obtain ⟨t, e1, e2, _⟩ := DataW.trod_string Tryz.underlying9 h0
    have hok := yy_ok
    have hx2 : (Rows.laid_loop_example_pub_g01442_pub_lua_parse_yyToknames : DataW Unit) = .agg (xs.map (·.1)) := (Prod.mk.inj hx1).1
    rw [hx2] at hok
    have hok2 := List.all_eq_true.1 (show (xs.map (·.1)).all _ = true from hok) (xs[k].1) (List.mem_map.2 ⟨_, List.getElem_mem hk', rfl⟩)
    rw [e2] at hok2
    refine ⟨t, ?_, ?_⟩
    · rw [World.var?_cell hg1 hv1 k]
      rw [Nat.mul_one] at e1
      have : (cs1.toList.drop k)[0]? = some (.string t) := by
        rw [← List.getElem?_take_of_lt (show 0 < 1 by decide), e1]
        rfl
      rw [List.getElem?_drop] at this
      simpa using this
    · have e3 : t.toList = t.data.toList := by first | exact Lib.toList_eq t | simp [Lib.toList_data] | exact ByteArray.toList_eq _ | rfl
      rw [e3]
      simpa using hok2
  · have hown : W'.ownsMap Tryz.prog 9 (plainElem Tryz.prog 3) bm es.size (.map (kwEn kwList)) := by
      have := World.ownsMap_of_fit (R := plainElem Tryz.prog 3) hb' F (fun x _ z hz => elemAt_plainElem_int Tryz.underlying3 hz)
      rw [← hx.1, kw_laid] at this
      exact this
    exact look_kw hown s
  · have := World.var?_cell Tryz.gEof hva 0
    simpa using this
end Go.Proofs.YtbgjjbffpckimaaGreatDoor

namespace Go.Proofs.YtbgjjbffpckimaaGreatDoor
set_option linter.all false
open Go.ChangeShapes Go.WideShapes Go.ChangeAt Go.WideMaps Go.WideElems Go.RowKit
open Go.ChangeMaps (open_string shut_string)

theorem Tryz.ownKnob : ownKnob Tryz.prog.godebug = none := by kernel_rfl
theorem Tryz.outB : laidOutB Tryz.prog = true := by kernel_rfl
theorem door_met (os : Os) (args : Array Value) : laidMetH Tryz.prog lad ((World.doorLaid Tryz.prog 277 os).forCall (fun _ _ => 0) ⟨#[], args, []⟩).memory :=
  laidMetH_of_parts3 (fuel := 8) (laidMet_of_run' 8 (by kernel_rfl) (by kernel_rfl)) (by kernel_rfl) (by kernel_rfl)

theorem Tryz.rd85 : Tryz.prog.readableRec 85 = true := by kernel_rfl
theorem Tryz.rd112 : Tryz.prog.readableRec 112 = true := by kernel_rfl
theorem Tryz.lt85 : 85 < Tryz.prog.types.size := of_decide_eq_true (by kernel_rfl)
theorem Tryz.lt112 : 112 < Tryz.prog.types.size := of_decide_eq_true (by kernel_rfl)
theorem var_below {P : Program} {W W' : World} (hb : Below W.heap.size W W') {n : String} {g : Nat} {cs : Array Value} (hg : P.globalNamed n = some g) (h : W.var? P n = some cs) : W'.var? P n = some cs := by
  unfold World.var? at h ⊢
  rw [hg] at h ⊢
  simp only [Option.bind_some] at h ⊢
  have hl : g < W.heap.size := by
    cases hh : W.heap[g]? with
    | none => rw [hh] at h; cases h
    | some o => exact (Array.getElem?_eq_some_iff.1 hh).1
  rw [hb.block g hl]
  exact h
theorem trod_below {H : Type} {enc : TypeId × Value → H} {W W' : World} (hb : Below W.heap.size W W') {t : TypeId} (hr : Tryz.prog.readableRec t = true) (hrow : t < Tryz.prog.types.size) {f : Nat} {cs : List Value} {x : DataW H × List MemPlace}
    (h : DataW.trod enc Tryz.prog W 0 (fun _ => true) true f t cs = some x) (hlt : ∀ p ∈ x.2, p.block < W.heap.size) {sp : Nat → Bool} (hs : ∀ p ∈ x.2, sp p.block = true) : DataW.trod enc Tryz.prog W' 0 sp true f t cs = some x :=
  DataW.trod_stays (kids_book Tryz.outB hr) (book_sized hr) (fun h => by cases h) ⟨hrow, book_self t⟩ h (fun p hp => hb.same (hlt p hp)) hs
/-- The two variables read as before. -/
theorem vars_below {H : Type} {enc : TypeId × Value → H} {W W' : World} (hb : Below W.heap.size W W') {gs : List (DataW H)} {q : List MemPlace}
    (hV : DataW.TrodVars enc Tryz.prog W (fun _ => true) ["loop.example/pub-g01442/pub/lua/parse.reservedWords", "loop.example/pub-g01442/pub/lua/parse.yyToknames"] gs q) :
    (∃ g1 g2, gs = [g1, g2]) ∧ ∀ sp : Nat → Bool, (∀ p ∈ q, sp p.block = true) → DataW.TrodVars enc Tryz.prog W' sp ["loop.example/pub-g01442/pub/lua/parse.reservedWords", "loop.example/pub-g01442/pub/lua/parse.yyToknames"] gs q := by
  have hlt := hV.lt
  obtain ⟨g0, t0, cs0, f0, d0, p0, g1, t1, cs1, f1, d1, p1, rfl, hg0, ht0, hv0, hd0, hg1, ht1, hv1, hd1, rfl⟩ := trodVars_two hV
  refine ⟨⟨d0, d1, rfl⟩, fun sp hsp => ?_⟩
  obtain rfl := Option.some.inj (Tryz.gKw.symm.trans hg0)
  obtain rfl := Option.some.inj (Tryz.gYy.symm.trans hg1)
  obtain rfl := Option.some.inj (Tryz.gKwT.symm.trans ht0)
  obtain rfl := Option.some.inj (Tryz.gYyT.symm.trans ht1)
  refine ⟨0, 85, cs0, f0, p0, _, hg0, ht0, var_below hb hg0 hv0, trod_below hb Tryz.rd85 Tryz.lt85 hd0 (fun p hp => hlt p (by simp [hp])) (fun p hp => hsp p (by simp [hp])), ?_, rfl⟩
  exact ⟨1, 112, cs1, f1, p1, [], hg1, ht1, var_below hb hg1 hv1, trod_below hb Tryz.rd112 Tryz.lt112 hd1 (fun p hp => hlt p (by simp [hp])) (fun p hp => hsp p (by simp [hp])), rfl, by simp⟩

end Go.Proofs.YtbgjjbffpckimaaGreatDoor
