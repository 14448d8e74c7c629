/-
  What the row's condition gives: io.EOF, the reserved words, the tokens' names.
-/
import Derived.Test.YtbgjjbffpckimaaDoorTks
import Derived.Test.YtbgjjbffpckimaaDoorTie
import Derived.ProofKit
import Derived.LaidMore
import Derived.OpenShut
import Derived.Stop.LaidErr
import Derived.Maps.OwnSet
namespace Go.Proofs.YtbgjjbffpckimaaDoor
set_option linter.all false
open Go.ChangeShapes Go.WideShapes Go.ChangeAt Go.RowKit Go.WideElems Go.WideMaps Go.Maps
open Go.ChangeMaps (open_string shut_string)

/-- What the rows list. -/
def lad : List (String × DataW Unit) := [("math/bits.deBruijn32tab", Rows.laid_math_bits_deBruijn32tab), ("math/bits.deBruijn64tab", Rows.laid_math_bits_deBruijn64tab), ("internal/strconv.uint64pow10", Rows.laid_internal_strconv_uint64pow10), ("strconv.ErrRange", Rows.laid_strconv_ErrRange), ("strconv.ErrSyntax", Rows.laid_strconv_ErrSyntax), ("io.EOF", Rows.laid_io_EOF), ("io.ErrNoProgress", Rows.laid_io_ErrNoProgress), ("bytes.ErrTooLarge", Rows.laid_bytes_ErrTooLarge), ("bufio.ErrInvalidUnreadByte", Rows.laid_bufio_ErrInvalidUnreadByte), ("bufio.errNegativeRead", Rows.laid_bufio_errNegativeRead), ("loop.example/pub-g01442/pub/lua/parse.reservedWords", Rows.laid_loop_example_pub_g01442_pub_lua_parse_reservedWords), ("loop.example/pub-g01442/pub/lua/parse.yyToknames", Rows.laid_loop_example_pub_g01442_pub_lua_parse_yyToknames)]

theorem Tryd.gEof : Tryd.prog.globalNamed "io.EOF" = some 2 := by kernel_rfl
theorem Tryd.gEofT : (Tryd.prog.globals[2]?).map (·.type) = some 46 := by kernel_rfl
theorem Tryd.gKw : Tryd.prog.globalNamed "loop.example/pub-g01442/pub/lua/parse.reservedWords" = some 0 := by kernel_rfl
theorem Tryd.gKwT : (Tryd.prog.globals[0]?).map (·.type) = some 68 := by kernel_rfl
theorem Tryd.gYy : Tryd.prog.globalNamed "loop.example/pub-g01442/pub/lua/parse.yyToknames" = some 1 := by kernel_rfl
theorem Tryd.gYyT : (Tryd.prog.globals[1]?).map (·.type) = some 91 := by kernel_rfl
theorem Tryd.cells130 : Tryd.prog.cellsOf 130 = 1 := by kernel_rfl
theorem Tryd.cells9 : Tryd.prog.cellsOf 9 = 1 := by kernel_rfl
theorem Tryd.star : "*" ++ "errors.errorString" = "*errors.errorString" := by decide
theorem Tryd.row128 (u : TypeId) (h : Tryd.prog.typeName? 3 u = some "*errors.errorString") : u = 128 :=
  typeName_ptr_named (nm := "errors.errorString") (by rw [Tryd.star]; kernel_rfl) (by kernel_rfl) (by decide) u (by rw [Tryd.star]; exact h)

theorem kwlaw : Keyed Tryd.prog 9 := string_keyed Tryd.underlying9
theorem zero3 (w : World) : (zeroValue 3).run Tryd.prog w = .ok (.int .i64 0) w := by kernel_rfl

/-- The reserved words as the row lists them. -/
def kwList : List (Bs × Int) := [([97, 110, 100], 57346), ([98, 114, 101, 97, 107], 57347), ([100, 111], 57348), ([101, 108, 115, 101], 57349), ([101, 108, 115, 101, 105, 102], 57350), ([101, 110, 100], 57351), ([102, 97, 108, 115, 101], 57352), ([102, 111, 114], 57353), ([102, 117, 110, 99, 116, 105, 111, 110], 57354), ([103, 111, 116, 111], 57367), ([105, 102], 57355), ([105, 110], 57356), ([108, 111, 99, 97, 108], 57357), ([110, 105, 108], 57358), ([110, 111, 116], 57359), ([111, 114], 57360), ([114, 101, 112, 101, 97, 116], 57362), ([114, 101, 116, 117, 114, 110], 57361), ([116, 104, 101, 110], 57363), ([116, 114, 117, 101], 57364), ([117, 110, 116, 105, 108], 57365), ([119, 104, 105, 108, 101], 57366)]
def kwEn (l : List (Bs × Int)) : List (Lit × DataW Unit) := l.map fun p => (.string p.1, .lit (.int .i64 p.2))
theorem kw_laid : (Rows.laid_loop_example_pub_g01442_pub_lua_parse_reservedWords : DataW Unit) = .map (kwEn kwList) := rfl

theorem has_kw (s : Bs) : ∀ l : List (Bs × Int), Maps.has (.map (kwEn l)) (.string s) = (l.lookup s).isSome
  | [] => rfl
  | (k, v) :: l => by
    have ih := has_kw s l
    rw [Maps.has_eq] at ih ⊢
    rw [kwEn, List.map_cons, List.any_cons, List.lookup_cons]
    show ((k == s) || _) = _
    by_cases h : k = s
    · subst h; simp
    · have h1 : (k == s) = false := by simpa using h
      have h2 : (s == k) = false := by simpa using fun e => h e.symm
      rw [h1, h2]
      simpa [kwEn] using ih
theorem at_kw (s : Bs) : ∀ l : List (Bs × Int), (DataW.map (kwEn l)).atKey (.string s) (.lit (.int .i64 0)) = .lit (.int .i64 ((l.lookup s).getD 0))
  | [] => rfl
  | (k, v) :: l => by
    have ih := at_kw s l
    simp only [DataW.atKey] at ih ⊢
    rw [kwEn, List.map_cons, List.find?_cons, List.lookup_cons]
    have hk : (Lit.string k).sameKey (.string s) = (k == s) := rfl
    rw [hk]
    by_cases h : k = s
    · subst h; simp
    · have h1 : (k == s) = false := by simpa using h
      have h2 : (s == k) = false := by simpa using fun e => h e.symm
      rw [h1, h2]
      exact ih

theorem lkp_none {s : Bs} : ∀ {l : List (Bs × Int)}, s ∉ l.map (·.1) → l.lookup s = none
  | [], _ => rfl
  | (k, v) :: l, h => by
    simp only [List.map_cons, List.mem_cons, not_or] at h
    rw [List.lookup_cons]
    have h2 : (s == k) = false := by simpa using h.1
    rw [h2]
    exact lkp_none h.2
theorem kw_all : ∀ s ∈ kwList.map (·.1), kwTab.lookup s = kwList.lookup s := by decide
theorem kw_sub : ∀ s ∈ kwTab.map (·.1), s ∈ kwList.map (·.1) := by decide
theorem kw_long : ∀ s ∈ kwList.map (·.1), s.length < 100 := by decide
theorem kw_same (s : Bs) : kwTab.lookup s = kwList.lookup s := by
  by_cases h : s ∈ kwList.map (·.1)
  · exact kw_all s h
  · rw [lkp_none h, lkp_none (fun h1 => h (kw_sub s h1))]
theorem kwOf_eq (s : Bs) : kwOf s = ((kwList.lookup s).getD 0, (kwList.lookup s).isSome) := by
  unfold kwOf
  rw [kw_same]
  cases kwList.lookup s <;> rfl

set_option maxRecDepth 100000 in
theorem look_kw {bm n : Nat} {W : World} (hown : W.ownsMap Tryd.prog 9 (plainElem Tryd.prog 3) bm n (.map (kwEn kwList))) (s : Bs) :
    (Instr.lookup 68 (.map (some bm)) (.string ⟨s.toArray⟩) true).run Tryd.prog W = .ok (.tuple #[.int .i64 (kwOf s).1, .bool (kwOf s).2]) W := by
  by_cases hs : (⟨s.toArray⟩ : ByteArray).size ≤ maxLen
  · obtain ⟨v, ps, hrun, hv⟩ := hown.look_ok kwlaw Tryd.underlying68 (zero3 _) (plainElem_int (a := 0) Tryd.underlying3 (by decide)) (keyOf_string_mk Tryd.underlying9 hs)
    rw [hrun, kwOf_eq]
    rw [at_kw] at hv
    rw [has_kw]
    obtain ⟨c, rfl, hc, hwc⟩ := plainElem_int_inv Tryd.underlying3 hv
    have e : (⟨s.toArray⟩ : ByteArray).data.toList = s := by simp
    rw [e] at hc ⊢
    have hc2 : (kwList.lookup s).getD 0 = c := by first | (injection hc with h1; injection h1 with h1 h2) | (have h3 := hc.symm; simp at h3; exact h3.1.symm) | (simp at hc; exact hc.1)
    rw [← hc2]
  · obtain ⟨es, clock, hb, F1, _, _⟩ := hown
    have hks : ∀ x ∈ es.toList, MapKept.IsKey .string x.key ∧ x.key ≠ .string ⟨s.toArray⟩ := fun x hx => by
      obtain ⟨y, hy⟩ := F1.reads x hx
      have hk := rd_key hy
      obtain ⟨s', e, hl, hz⟩ := string_of_keyOf Tryd.underlying9 hk
      rw [e]
      refine ⟨trivial, fun h => ?_⟩
      injection h with h
      subst h
      exact hs (by first | exact hz | exact hl)
    have hfind : (Instr.findKey 9 (.string ⟨s.toArray⟩) es.toList).run Tryd.prog W = .ok none W := by
      rcases MapKept.findNow_spec (d := .string) (k := .string ⟨s.toArray⟩) trivial es.toList 0 (fun x hx => (hks x hx).1) with ⟨h1, h2⟩ | ⟨j, e0, h1, h2, h3⟩
      · exact MapKept.run_findKey Tryd.underlying9 h1
      · exact absurd h3 (hks e0 (List.mem_of_getElem? h2)).2
    have hno : kwList.lookup s = none := lkp_none fun h => hs (by
      have := kw_long s h
      show s.toArray.size ≤ maxLen
      unfold maxLen
      simp
      omega)
    rw [kwOf_eq, hno]
    simp [Instr.lookup, run_underlying Tryd.underlying68, MapKept.run_getObj_map hb, MapKept.run_checkKey (k := .string ⟨s.toArray⟩) Tryd.underlying9 trivial, hfind, zero3, Result.andThen]

theorem yy_ok : (match (Rows.laid_loop_example_pub_g01442_pub_lua_parse_yyToknames : DataW Unit) with
    | .agg l => l.all (fun d => match d with | .lit (.string s) => !s.isEmpty | _ => false)
    | _ => false) = true := by kernel_rfl

set_option maxRecDepth 100000 in
/-- WHAT THE CONDITION GIVES. -/
theorem of_lad {W : World} (h : laidMetH Tryd.prog lad W) : ∃ E bm obj, Wld W E bm obj := by
  rw [MakeChecks.laidMetH_plain _ _ _ (by kernel_rfl)] at h
  have h5 := h.tail.tail.tail.tail.tail
  obtain ⟨a0, sa, hva, _, _, _⟩ := laid_sentinel h5 Tryd.gEof Tryd.gEofT Tryd.underlying46 Tryd.row128 Tryd.underlying128 Tryd.underlying130 rfl rfl Tryd.underlying9 Tryd.cells130 Tryd.cells9
  have h10 := h5.tail.tail.tail.tail.tail
  obtain ⟨ps, ⟨g0, t0, cs0, f0, p0, q0, hg0, ht0, hv0, hd0, ⟨g1, t1, cs1, f1, p1, q1, hg1, ht1, hv1, hd1, _, _⟩, _⟩, _, _⟩ := h10
  obtain rfl := Option.some.inj (Tryd.gKw.symm.trans hg0)
  obtain rfl := Option.some.inj (Tryd.gYy.symm.trans hg1)
  obtain rfl := Option.some.inj (Tryd.gKwT.symm.trans ht0)
  obtain rfl := Option.some.inj (Tryd.gYyT.symm.trans ht1)
  rcases open_map Tryd.underlying68 hd0 with ⟨_, hx⟩ | ⟨bm, es, clock, m, rfl, hcs, hb, _, F, hx⟩
  · rw [kw_laid] at hx
    simp at hx
  simp only [Prod.mk.injEq] at hx
  have hcell : W.cell? ⟨0, 0, none⟩ = some (.map (some bm)) := by
    have := World.var?_cell hg0 hv0 0
    rw [Array.eq_one_of_toList hcs] at this
    simpa using this
  refine ⟨a0, bm, _, ⟨hcell, hb, fun k hk => ?_, fun s W' hb' => ?_⟩, ?_⟩
  · obtain ⟨xs, m1, rfl, hx1, hlen, hn56, hel⟩ := DataW.trod_array Tryd.underlying91 hd1
    have hk' : k < xs.length := by omega
    have h0 := hel k hk
    rw [Tryd.cells9, List.getElem?_eq_getElem hk'] at h0
    obtain ⟨t, e1, e2, _⟩ := DataW.trod_string Tryd.underlying9 h0
    have hok := yy_ok
    have hx2 : (Rows.laid_loop_example_pub_g01442_pub_lua_parse_yyToknames : DataW Unit) = .agg (xs.map (·.1)) := (Prod.mk.inj hx1).1
    rw [hx2] at hok
    have hok2 := List.all_eq_true.1 (show (xs.map (·.1)).all _ = true from hok) (xs[k].1) (List.mem_map.2 ⟨_, List.getElem_mem hk', rfl⟩)
    rw [e2] at hok2
    refine ⟨t, ?_, ?_⟩
    · rw [World.var?_cell hg1 hv1 k]
      rw [Nat.mul_one] at e1
      have : (cs1.toList.drop k)[0]? = some (.string t) := by
        rw [← List.getElem?_take_of_lt (show 0 < 1 by decide), e1]
        rfl
      rw [List.getElem?_drop] at this
      simpa using this
    · have e3 : t.toList = t.data.toList := by first | exact Lib.toList_eq t | simp [Lib.toList_data] | exact ByteArray.toList_eq _ | rfl
      rw [e3]
      simpa using hok2
  · have hown : W'.ownsMap Tryd.prog 9 (plainElem Tryd.prog 3) bm es.size (.map (kwEn kwList)) := by
      have := World.ownsMap_of_fit (R := plainElem Tryd.prog 3) hb' F (fun x _ z hz => elemAt_plainElem_int Tryd.underlying3 hz)
      rw [← hx.1, kw_laid] at this
      exact this
    exact look_kw hown s
  · have := World.var?_cell Tryd.gEof hva 0
    simpa using this
end Go.Proofs.YtbgjjbffpckimaaDoor
