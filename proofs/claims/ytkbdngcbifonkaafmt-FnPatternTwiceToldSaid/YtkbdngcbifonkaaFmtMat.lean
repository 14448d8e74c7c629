/-
  WHAT CLASSES MATCH: the walk of every Matches, and the call through the interface.
-/
import Derived.Test.YtkbdngcbifonkaaFmtSingle
import Derived.Test.YtkbdngcbifonkaaFmtCls
import Derived.Deep.LoopGhost
namespace Go.Proofs.YtkbdngcbifonkaaFmt
set_option linter.all false
open Go.RowKit

/-- The call of Matches on an interface value: which function it is, and what it gives. -/
def Asks (w : World) (v : Value) (m : Int → Bool) : Prop :=
  ∃ u x f, v = .iface u x ∧ (∀ w, (method 295 u x "Matches").run Tryf.prog w = .ok (f, x) w) ∧ (∀ args w, (callFunc f args).run Tryf.prog w = .ok (.enter f args) w) ∧ ∀ ch : Int, 0 ≤ ch → Calls Tryf.prog f #[x, .int .i64 ch] w fun e w' => e = .returned (.bool (m ch)) ∧ w = w'

theorem m_chr (v : Value) (w : World) : (method 295 144 v "Matches").run Tryf.prog w = .ok (83, v) w := by kernel_rfl
theorem m_single (v : Value) (w : World) : (method 295 166 v "Matches").run Tryf.prog w = .ok (84, v) w := by kernel_rfl
theorem m_dot (v : Value) (w : World) : (method 295 169 v "Matches").run Tryf.prog w = .ok (85, v) w := by kernel_rfl
theorem m_set (v : Value) (w : World) : (method 295 172 v "Matches").run Tryf.prog w = .ok (86, v) w := by kernel_rfl
theorem m_range (v : Value) (w : World) : (method 295 176 v "Matches").run Tryf.prog w = .ok (87, v) w := by kernel_rfl

theorem cf83 (args : Array Value) (w : World) : (callFunc 83 args).run Tryf.prog w = .ok (.enter 83 args) w := by kernel_rfl
theorem cf84 (args : Array Value) (w : World) : (callFunc 84 args).run Tryf.prog w = .ok (.enter 84 args) w := by kernel_rfl
theorem cf85 (args : Array Value) (w : World) : (callFunc 85 args).run Tryf.prog w = .ok (.enter 85 args) w := by kernel_rfl
theorem cf86 (args : Array Value) (w : World) : (callFunc 86 args).run Tryf.prog w = .ok (.enter 86 args) w := by kernel_rfl
theorem cf87 (args : Array Value) (w : World) : (callFunc 87 args).run Tryf.prog w = .ok (.enter 87 args) w := by kernel_rfl

theorem chr_matches (b : Nat) (n ch : Int) (w : World) (h : w.cell? ⟨b, 0, none⟩ = some (.int .i64 n)) :
    Calls Tryf.prog 83 #[ptr b, .int .i64 ch] w fun e w' => e = .returned (.bool (decide (n = ch))) ∧ w = w' := by
  go_enter Tryf.func83, Tryf.ntmps83
  go_wp2
  go_ret
  exact ⟨rfl, rfl⟩

theorem dot_matches (p : Addr) (ch : Int) (w : World) :
    Calls Tryf.prog 85 #[.pointer (some p), .int .i64 ch] w fun e w' => e = .returned (.bool true) ∧ w = w' := by
  go_enter Tryf.func85, Tryf.ntmps85
  go_wp2
  go_ret
  exact ⟨rfl, rfl⟩

theorem range_no (b x : Nat) (ch : Int) (w : World) (h0 : w.cell? ⟨b, 0, none⟩ = some (.iface 166 (ptr x))) :
    Calls Tryf.prog 87 #[ptr b, .int .i64 ch] w fun e w' => e = .returned (.bool false) ∧ w = w' := by
  have ta := ta_chr_not
  go_enter Tryf.func87, Tryf.ntmps87
  go_wp2
  go_ret
  exact ⟨rfl, rfl⟩

theorem range_no2 (b x y : Nat) (ch : Int) (w : World) (h0 : w.cell? ⟨b, 0, none⟩ = some (.iface 144 (ptr x))) (h1 : w.cell? ⟨b, 1, none⟩ = some (.iface 166 (ptr y))) :
    Calls Tryf.prog 87 #[ptr b, .int .i64 ch] w fun e w' => e = .returned (.bool false) ∧ w = w' := by
  have ta := ta_chr
  have ta2 := ta_chr_not
  go_enter Tryf.func87, Tryf.ntmps87
  go_wp2
  go_ret
  exact ⟨rfl, rfl⟩

theorem atom_asks {w : World} {ok : Nat → Prop} {v : Value} {a : Pm.Atom} (h : RepAtom w ok v a) : Asks w v a.mat := by
  cases a with
  | chr n =>
    obtain ⟨b, _, rfl, hc⟩ := h
    exact ⟨_, _, _, rfl, m_chr _, cf83, fun ch _ => chr_matches b n ch w hc⟩
  | single n =>
    obtain ⟨b, _, rfl, hc⟩ := h
    exact ⟨_, _, _, rfl, m_single _, cf84, fun ch h0 => single_matches b n ch w hc h0⟩

theorem elem_asks {w : World} {ok : Nat → Prop} {v : Value} {e : Pm.Elem} (h : RepElem w ok v e) : Asks w v e.mat := by
  cases e with
  | atom a => exact atom_asks h
  | range a e =>
    obtain ⟨b, x, y, _, rfl, hx, hy, ha, he⟩ := h
    refine ⟨_, _, _, rfl, m_range _, cf87, fun ch _ => ?_⟩
    cases a with
    | chr n =>
      obtain ⟨bx, _, rfl, hcx⟩ := ha
      cases e with
      | chr m =>
        obtain ⟨by', _, rfl, hcy⟩ := he
        exact range_matches b bx by' n m ch w hx hy hcx hcy
      | single m =>
        obtain ⟨by', _, rfl, hcy⟩ := he
        exact range_no2 b bx by' ch w hx hy
    | single n =>
      obtain ⟨bx, _, rfl, hcx⟩ := ha
      exact range_no b bx ch w hx

set_option maxRecDepth 100000 in
theorem set_matches (b A cap : Nat) (neg : Bool) (es : List Pm.Elem) (ch : Int) (w : World) (hch : 0 ≤ ch) (h0 : w.cell? ⟨b, 0, none⟩ = some (.bool neg)) (h1 : w.cell? ⟨b, 1, none⟩ = some (.slice (some ⟨A, 0, none⟩) es.length cap)) (hn : es.length ≤ 100000)
    (hi : Hid (∀ i (h : i < es.length), ∃ v, w.cell? ⟨A, i, none⟩ = some v ∧ Asks w v es[i].mat)) :
    Calls Tryf.prog 86 #[ptr b, .int .i64 ch] w fun e w' => e = .returned (.bool ((Pm.Cls.set neg es).mat ch)) ∧ w = w' := by
  go_enter Tryf.func86, Tryf.ntmps86
  go_wp2_with fail
  go_loop [12] (fun i => ∃ k : Nat, k ≤ es.length ∧ (es.take k).any (·.mat ch) = false ∧ i = .int .i64 k) (fun i => es.length - (intOf i).toNat)
  case atStart => exact ⟨0, by omega, by simp, rfl⟩
  case round =>
    obtain ⟨k, hk, hno, rfl⟩ := hrel
    have HNO := Lib.hid hno
    clear hno
    by_cases hlt : k < es.length
    · obtain ⟨v, hc, u, x, f, rfl, hm, hcf, hcall⟩ := hi.out k hlt
      have hcc := hcall ch hch
      have HC := Lib.hid hcc
      clear hcall hcc
      have htk : (es.take (k + 1)).any (·.mat ch) = ((es.take k).any (·.mat ch) || es[k].mat ch) := by
        rw [List.take_succ_eq_append_getElem hlt, List.any_append]
        simp
      cases hb : es[k].mat ch with
      | true =>
        rw [hb] at HC htk
        have hres : (Pm.Cls.set neg es).mat ch = !neg := by
          have : es.any (·.mat ch) = true := List.any_eq_true.2 ⟨es[k], List.getElem_mem hlt, hb⟩
          simp [Pm.Cls.mat, this]
        have HRES := Lib.hid hres
        clear hres htk hb
        go_wp2_with (refine HC.out.mono ?_; rintro e w' ⟨rfl, rfl⟩)
        go_ret
        exact ⟨ret_bool HRES.out.symm, rfl⟩
      | false =>
        rw [hb] at HC htk
        have HTK := Lib.hid htk
        clear htk hb
        go_wp2_with (refine HC.out.mono ?_; rintro e w' ⟨rfl, rfl⟩)
        go_round
        case rel => exact ⟨k + 1, by omega, by rw [HTK.out, HNO.out]; rfl, by go_num⟩
        case measure => simp [intOf]; omega
    · have hke : k = es.length := by omega
      have hres : (Pm.Cls.set neg es).mat ch = neg := by
        have : es.any (·.mat ch) = false := by have := HNO.out; rw [hke, List.take_length] at this; exact this
        simp [Pm.Cls.mat, this]
      have HRES := Lib.hid hres
      clear hres hke
      go_wp2_with fail
      go_ret
      exact ⟨ret_bool HRES.out.symm, rfl⟩

theorem cls_asks {w : World} {ok : Nat → Prop} {v : Value} {c : Pm.Cls} (hl : ∀ neg l, c = .set neg l → l.length ≤ 100000) (h : RepCls w ok v c) : Asks w v c.mat := by
  cases c with
  | dot =>
    obtain ⟨p, rfl⟩ := h
    exact ⟨_, _, _, rfl, m_dot _, cf85, fun ch _ => dot_matches p ch w⟩
  | atom a => exact atom_asks h
  | set neg l =>
    obtain ⟨b, A, cap, _, _, rfl, h0, h1, hi⟩ := h
    exact ⟨_, _, _, rfl, m_set _, cf86, fun ch hch => set_matches b A cap neg l ch w hch h0 h1 (hl neg l rfl) (fun i hil => by
      obtain ⟨u, hu, he⟩ := hi i hil
      exact ⟨u, hu, elem_asks he⟩)⟩

end Go.Proofs.YtkbdngcbifonkaaFmt
