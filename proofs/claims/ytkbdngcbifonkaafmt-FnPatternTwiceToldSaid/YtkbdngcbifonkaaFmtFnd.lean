/-
  Find, WITH THE LIMIT 1: the first match, or none. Under what parsing the pattern gives, and what the machine computes on its code.
-/
import Derived.Test.YtkbdngcbifonkaaFmtVmE
import Derived.Test.YtkbdngcbifonkaaFmtCmpP
import Derived.Test.YtkbdngcbifonkaaFmtScan
import Derived.Laws.IdiomStrings
import Derived.Defers
import Derived.Recover
namespace Go.Proofs.YtkbdngcbifonkaaFmt
set_option linter.all false
open Go.RowKit

theorem conv_bytes (w : World) (s : ByteArray) : ∃ cap w1, (convert 9 32 (.string s)).run Tryf.prog w = .ok (sliceAt w.heap.size s.data.toList.length cap) w1 ∧ Ch (fun _ => False) w w1 ∧ w1.heap.size = w.heap.size + 1 ∧
    (∀ i (h : i < s.data.toList.length), w1.cell? ⟨w.heap.size, i, none⟩ = some (.int .u8 (s.data.toList[i].toNat))) ∧ s.data.toList.length ≤ cap := by
  have hl : s.data.toList.length = s.size := Array.length_toList
  refine ⟨grownCap w s.size 0 5, w.drew.alloc (.cells (bytesRow s (grownCap w s.size 0 5)) 5 ((bytesRow s (grownCap w s.size 0 5)).size, (bytesRow s (grownCap w s.size 0 5)).size + 1)), ?_, ?_, ?_, ?_, by rw [hl]; exact grownCap_ge w s.size 0 5⟩
  · rw [hl]
    exact run_bytes_of_string (P := Tryf.prog) w 9 32 5 s (by kernel_rfl) (by kernel_rfl) (by kernel_rfl)
  · exact (Ch.refl _ w).drew.alloc _
  · simp
  · intro i h
    have hi : i < s.data.size := by simpa using h
    have := World.cell?_alloc_mark w.drew (bytesRow s (grownCap w s.size 0 5)) 5 ((bytesRow s (grownCap w s.size 0 5)).size, (bytesRow s (grownCap w s.size 0 5)).size + 1) i
    rw [bytesRow_at s _ i hi] at this
    simpa using this

theorem catch_idle (p : Addr) (w : World) :
    CallsD Tryf.prog 35 #[.pointer (some p)] .returning w fun e u' w' => e = .returned (.tuple #[]) ∧ u' = .returning ∧ w' = w := by
  refine callsD_of_wpS Tryf.func35 rfl fun c₀ cs hu => ?_
  apply wpS_seq
  apply wpS_region
  simp [wpOpsS, go_sem, recoverD, hu, Tryf.ntmps35, Exit.thenS]
  apply wpS_seq
  apply wpS_region
  simp [wpOpsS, go_sem, Exit.thenS]
  refine wpS_cond (t := false) (by simp [Act.eval, Array.replicate]) ?_
  simp only [Bool.false_eq_true, if_false]
  refine wpS_of_wp (wp_skip ?_)
  cases c₀
  simp_all [bodyPostS, results, Tryf.results35]

theorem VmEnv.up {w : World} {Bd Bd' C S : Nat} {l : List Pm.Ins} {src : List UInt8} (h : VmEnv w Bd C S l src) (h1 : Bd ≤ Bd') (h2 : Bd' ≤ w.heap.size) : VmEnv w Bd' C S l src := by
  refine ⟨Nat.lt_of_lt_of_le h.cb h1, Nat.lt_of_lt_of_le h.sb h1, h2, fun k hk => ?_, h.bytes, h.srclen, h.codelen, h.ins⟩
  obtain ⟨x, hx, hj⟩ := h.code k hk
  exact ⟨x, hx.keep (w := w) (w' := w) (ok := (· < Bd)) (ok' := (· < Bd')) (fun b hb => ⟨rfl, Nat.lt_of_lt_of_le hb h1⟩), hj⟩

theorem VmEnv.on {w w' : World} {C S : Nat} {l : List Pm.Ins} {src : List UInt8} (h : VmEnv w w.heap.size C S l src) (hc : Ch (fun _ => False) w w') : VmEnv w' w'.heap.size C S l src :=
  (h.keep (hc.mono fun _ _ h => h.elim)).up hc.size (Nat.le_refl _)

/-- The ground of the machine behind the code's making. -/
theorem IpAt.env {w0 w : World} {I k c S : Nat} {l : List Pm.Ins} {B : Option Addr} {us : List Value} {src : List UInt8} (h : IpAt w0 I l k w B c us) (hl0 : l ≠ []) (hl : l.length ≤ 1000) (hins : ∀ k (h : k < l.length), insIn l[k])
    (hs : src.length ≤ 100000) (hS : S < w0.heap.size) (hb : ∀ i (h : i < src.length), w0.cell? ⟨S, i, none⟩ = some (.int .u8 src[i].toNat)) : ∃ C, B = some ⟨C, 0, none⟩ ∧ VmEnv w w.heap.size C S l src := by
  have hown := h.own
  rcases hown.2 with h0 | ⟨g, cap, cur, hv, hb0, hgg, rest⟩
  · exact absurd (List.length_eq_zero_iff.1 h0.2) hl0
  · have hB : B = some ⟨g, 0, none⟩ := by injection hv
    subst hB
    have hg := hown.lt g rfl
    refine ⟨g, rfl, hg.2, Nat.lt_of_lt_of_le hS h.ch.size, Nat.le_refl _, fun k hk => ?_, fun i hi => h.ch.cell_some (hb i hi) id, hs, hl, hins⟩
    obtain ⟨x, hx, hj⟩ := h.flat.at k hk
    refine ⟨x, ?_, fun j hj4 => ?_⟩
    · exact hx.keep (fun b hb => ⟨h.ch.block b hb id, Nat.lt_of_lt_of_le hb h.ch.size⟩)
    · rw [← hj j hj4, hown.cellAt (k * 4 + j) (by have := hk; omega)]

theorem Tryf.info77 : (Tryf.prog.info? 77).map (fun i => (i.zero, i.size, i.bytes)) = some (some (.pointer none), 1, 8) := by kernel_rfl

/-- What Find with the limit 1 gives. -/
def FindPost (w : World) (res : Option (List Nat)) (e : Ending) (w' : World) : Prop :=
  Ch (fun _ => False) w w' ∧ match res with
    | none => ∃ A c, e = .returned (.tuple #[.slice A 0 c, .nilIface])
    | some caps => ∃ G c B M g c', e = .returned (.tuple #[sliceAt G 1 c, .nilIface]) ∧ w'.cell? ⟨G, 0, none⟩ = some (ptr M) ∧ w.heap.size ≤ B ∧ CapsAt w' B M caps g c'

/-- What parsing a pattern gives, wherever its bytes lie. -/
def Parses (l : List UInt8) (head : Bool) (ps : List Pm.Pat) : Prop :=
  ∀ w Sc A cap, Scan w Sc A cap l 0 0 → A < w.heap.size → Calls Tryf.prog 36 #[ptr Sc, .bool true] w fun e w' => ∃ b, e = .returned (ptr b) ∧ RepPats w' (fun b => w.heap.size ≤ b ∧ b < w'.heap.size) b head false ps ∧ Ch (· = Sc) w w'

/-- A pattern that the walks speak of. -/
structure PatsOk (ps : List Pm.Pat) : Prop where
  len : (Pm.code ps).length ≤ 900
  caps : kn ps 2 ≤ 100
  n : ps.length ≤ 1000
  n2 : ∀ q, .cap q ∈ ps → q.length ≤ 1000
  ok : ∀ p ∈ ps, PatOk p
  ins : ∀ k (h : k < (Pm.code ps).length), insIn (Pm.code ps)[k]

set_option maxRecDepth 100000 in
set_option maxHeartbeats 4000000 in
theorem find_calls {w : World} {s : ByteArray} {l : List UInt8} {S scap sp0 f : Nat} {src : List UInt8} {ps : List Pm.Pat} {head : Bool} {res : Option (List Nat)} (hl : s.data.toList = l) (hll : l.length ≤ 1000)
    (HP : Hid (Parses l head ps)) (HK : Hid (PatsOk ps)) (hS : S < w.heap.size) (HBY : Hid (∀ i (h : i < src.length), w.cell? ⟨S, i, none⟩ = some (.int .u8 src[i].toNat))) (hsrc : src.length ≤ 100000) (hsc : src.length ≤ scap) (hsp : sp0 ≤ src.length) (hf : f ≤ 1000000)
    (HF : Hid (Pm.find (Pm.code ps) src head f (src.length + 1 - sp0) sp0 = some res)) :
    Calls Tryf.prog 27 #[.string s, sliceAt S src.length scap, .int .i64 sp0, .int .i64 1] w (FindPost w res) := by
  obtain ⟨i0, hi0, hz0, hz1, hz2⟩ := info_parts Tryf.info77
  have I0 := Lib.hid hi0
  have Z0 := Lib.hid hz0
  have Z1 := Lib.hid hz1
  have Z2 := Lib.hid hz2
  clear hi0 hz0 hz1 hz2
  have hmf : ∀ (fn : Fn) (first cap : Array Value) (w : World), (Instr.makeFunc fn first cap).run Tryf.prog w = .ok (.func fn first cap) w := fun _ _ _ _ => rfl
  obtain ⟨cp, w1, hconv, hch1, hsz1, hb1, hcp⟩ := conv_bytes (w.alloc (.cells #[.nilIface] 74)) s
  rw [hl] at hconv hcp
  have HB1 : Hid (∀ i (h : i < l.length), w1.cell? ⟨w.heap.size + 1, i, none⟩ = some (.int .u8 (l[i].toNat : Int))) := Lib.hid (by subst hl; simpa using hb1)
  have HCH1 := Lib.hid (((Ch.refl (fun _ => False) w).alloc (.cells #[.nilIface] 74)).trans hch1)
  have HSZ1 : Hid (w1.heap.size = w.heap.size + 2) := Lib.hid (by simpa using hsz1)
  have HN := Lib.hid (hch1.cell_some (p := ⟨w.heap.size, 0, none⟩) (World.cell?_alloc_at _ _ _ _ rfl) id)
  clear hb1 hch1 hsz1 hl hcp
  have HSC := Lib.hid hsc
  have HSRC := Lib.hid hsrc
  have HSS := Lib.hid hS
  clear hsc hsrc hS
  go_enter_defers Tryf.func27, Tryf.ntmps27
  go_wp2_with (first
    | (go_at_call 37; refine (scan_new (l := l) (by omega) HB1.out (by have := HSZ1.out; omega)).mono ?_; rintro e w2 ⟨rfl, hs2, hch2, hsz2⟩; have HS2 := Lib.hid hs2; have HCH2 := Lib.hid hch2; have HSZ2 := Lib.hid hsz2; clear hs2 hch2 hsz2)
    | (go_at_call 36; refine (HP.out w2 _ _ _ HS2.out (by have := HSZ1.out; have := HSZ2.out; omega)).mono ?_; rintro e w3 ⟨b, rfl, hrep, hch3⟩
       have hc13 := HCH2.out.trans' hch3 (T := fun _ => False) (fun i hi e => by omega)
       have hc3 := HCH1.out.trans hc13
       have HC13 := Lib.hid hc13
       have hr3 := hrep.keep (w' := w3) (ok' := (· < w3.heap.size)) (fun b hb => ⟨rfl, hb.2⟩)
       have HR3 := Lib.hid hr3
       have HC3 := Lib.hid hc3
       clear hrep hr3 hc3 hc13 hch3)
    | (go_at_call 38; refine (comp_pats HK.out.len HK.out.caps HK.out.n HK.out.n2 HK.out.ok HR3.out).mono ?_; rintro e w4 ⟨I, B', c', us', hip, rfl⟩
       obtain ⟨C, rfl, henv⟩ := hip.env (S := S) (src := src) (by simp [Pm.code]) (by have := HK.out.len; omega) HK.out.ins HSRC.out (Nat.lt_of_lt_of_le HSS.out HC3.out.size) (fun i hi => HC3.out.cell_some (HBY.out i hi) id)
       have HENV := Lib.hid henv
       have HC4 := Lib.hid (HC3.out.trans hip.ch)
       have HIC := Lib.hid hip.ch
       clear henv hip))
  obtain ⟨hsp1, hsp2, hsp3⟩ : (0 : Int) ≤ sp0 ∧ sp0 ≤ src.length + 1 ∧ src.length ≤ 100000 := ⟨by omega, by omega, HSRC.out⟩
  have HCX : Hid (Ch (fun _ => False) w (w4.alloc (.cells #[] 77))) := Lib.hid (HC4.out.alloc _)
  have HHEAD : Hid ((w4.alloc (.cells #[] 77)).cell? ⟨b, 0, none⟩ = some (.bool head)) := Lib.hid (by
    obtain ⟨A, cap, _, _, h0, _⟩ := HR3.out
    exact (HIC.out.alloc _).cell_some h0 id)
  have HOWN := Lib.hid (World.ownsRow_made (base := w.heap.size) (e := 77) (size := 1) w4 #[] 0 HC4.out.size (Nat.zero_le _) rfl)
  have HENV2 := Lib.hid (HENV.out.on ((Ch.refl _ _).alloc (.cells #[] 77)))
  have HN0L : Hid (w.heap.size < w4.heap.size) := Lib.hid (by have := HSZ1.out; have := HC13.out.size; have := HIC.out.size; omega)
  have hN0 : Hid (w4.cell? ⟨w.heap.size, 0, none⟩ = some .nilIface) := Lib.hid ((HC13.out.trans HIC.out).cell_some HN.out id)
  go_loopg [8, 12] (src.length + 1 - sp0) (fun k s8 s12 wr => s8 = sliceAt w4.heap.size 0 0 ∧ ∃ sp : Nat, s12 = .int .i64 sp ∧ sp ≤ src.length + 1 ∧ k = src.length + 1 - sp ∧ Pm.find (Pm.code ps) src head f k sp = some res ∧ Ch (fun _ => False) (w4.alloc (.cells #[] 77)) wr)
  case atStart => exact ⟨rfl, sp0, rfl, by omega, rfl, HF.out, .refl _ _⟩
  case round =>
    obtain ⟨rfl, sp, rfl, hsp, rfl, hfind, hch⟩ := hrel
    clear HF
    have hw1 : IntKind.i64.wrap ((sp : Int) + 1) = ((sp + 1 : Nat) : Int) := by rw [IntKind.wrap_i64]; omega
    have HCH := Lib.hid hch
    have hN := hch.cell_some (((Ch.refl (fun _ => False) _).alloc _).cell_some hN0.out id) id
    have hh := hch.cell_some HHEAD.out id
    clear hch
    by_cases hlt : sp ≤ src.length
    · have hlti : (sp : Int) ≤ src.length := by omega
      rw [show src.length + 1 - sp = (src.length - sp) + 1 from by omega, Pm.find] at hfind
      cases hv : Pm.vm (Pm.code ps) src f 0 sp [] with
      | none => rw [hv] at hfind; simp at hfind
      | some t =>
        obtain ⟨r, n, c⟩ := t
        rw [hv] at hfind
        have HV := Lib.hid hv
        clear hv
        cases r with
        | true =>
          simp only [Option.some.injEq] at hfind
          subst hfind
          go_wp2_with (first
            | (go_at_call 39; refine (vm_top (Lib.hid (HENV2.out.on HCH.out)) HSC.out hf hlt HV).mono ?_; rintro e w5 ⟨rfl, ⟨g', c', hcap⟩, hch5⟩; have HC5 := Lib.hid hch5; have HCAP := Lib.hid hcap; clear hch5 hcap)
            | (at_builtin; refine wpList_append_lies _ rfl (.tmp 45) (.tmp 47) 72 rfl w.heap.size 77 i0 _ 1 8 Tryf.underlying72 I0.out Z0.out Z1.out Z2.out rfl (by omega) _ _ [] rfl ((Ch.owns HC5.out (Ch.owns HCH.out HOWN.out (fun _ _ => id)) (fun _ _ => id)).alloc _) ⟨w5.heap.size, 0, none⟩ 1 1 [ptr (wr.heap.size + 1)] rfl rfl (World.news_of_block (heap_alloc_new w5 _)) (by intro y hy; simp at hy; subst hy; rfl) (by omega) (by unfold maxLen; omega) (by omega) (by have := HCX.out.size; have := HCH.out.size; have := HC5.out.size; simp; omega) (w5.heap.size + 1) (by simp) ?_; intro g9 c9 w9 hown9 hgrow9 hat9 hlt9
               obtain ⟨r1, r2, r3, r4⟩ : Ch (fun _ => False) w w9 ∧ w9.cell? ⟨w.heap.size, 0, none⟩ = some .nilIface ∧ w9.cell? ⟨g9, 0, none⟩ = some (ptr (wr.heap.size + 1)) ∧ CapsAt w9 wr.heap.size (wr.heap.size + 1) c g' c' := by
                 have s1 := HC4.out.size
                 have s2 := HCH.out.size
                 have s3 := HC5.out.size
                 have s4 := HN0L.out
                 simp at s2
                 have hx : Ch (· = w4.heap.size) w5 w9 := ((Ch.refl (· = w4.heap.size) w5).alloc _).grown hgrow9 (fun k hk _ => by cases hk; rfl)
                 refine ⟨((HCX.out.trans HCH.out).trans HC5.out).trans' hx (fun i hi e => by omega), hx.cell_some (HC5.out.cell_some hN id) (by simp; omega), ?_, HCAP.out.keep hx (fun k h1 h2 e => by omega)⟩
                 have := hown9.cellAt 0 (by omega)
                 simpa using this
               have R1 := Lib.hid r1
               have R3 := Lib.hid r3
               have R4 := Lib.hid r4
               clear hown9 hgrow9 hat9 hlt9 r1 r3 r4))
          all_goals
            refine leaves_cons (f := 35) (args := #[.pointer (some ⟨w.heap.size, 0, none⟩)]) (by simp) (by simp [go_sem]) ?_
            refine (catch_idle _ _).mono ?_
            rintro e u' w'' ⟨rfl, rfl, rfl⟩
            simp [Leaves, settle, results, Tryf.results27, go_sem, r2]
            exact ⟨R1.out, _, _, _, _, _, _, rfl, R3.out, by have := HCX.out.size; have := HCH.out.size; omega, R4.out⟩
        | false =>
          simp only at hfind
          have hz : ((0 : Int) == 1) = false := rfl
          cases head with
          | true =>
            simp only [if_true, Option.some.injEq] at hfind
            subst hfind
            go_wp2_with (go_at_call 39; refine (vm_top (Lib.hid (HENV2.out.on HCH.out)) HSC.out hf hlt HV).mono ?_; rintro e w5 ⟨rfl, ⟨g', c', hcap⟩, hch5⟩
                         have r2 := hch5.cell_some hN id
                         have hh2 := hch5.cell_some hh id
                         have HC5 := Lib.hid hch5
                         clear hch5 hcap)
            all_goals
              refine leaves_cons (f := 35) (args := #[.pointer (some ⟨w.heap.size, 0, none⟩)]) (by simp) (by simp [go_sem]) ?_
              refine (catch_idle _ _).mono ?_
              rintro e u' w'' ⟨rfl, rfl, rfl⟩
              simp [Leaves, settle, results, Tryf.results27, go_sem, r2]
              exact ⟨(HCX.out.trans HCH.out).trans HC5.out, _, _, rfl⟩
          | false =>
            simp only [Bool.false_eq_true, if_false] at hfind
            have HFI := Lib.hid hfind
            clear hfind
            go_wp2_with (go_at_call 39; refine (vm_top (Lib.hid (HENV2.out.on HCH.out)) HSC.out hf hlt HV).mono ?_; rintro e w5 ⟨rfl, ⟨g', c', hcap⟩, hch5⟩
                         have hh2 := hch5.cell_some hh id
                         have HC5 := Lib.hid hch5
                         clear hch5 hcap)
            go_roundg (src.length - sp)
            case measure => omega
            case rel => exact ⟨rfl, sp + 1, rfl, by omega, by omega, HFI.out, HCH.out.trans HC5.out⟩
    · have hse : sp = src.length + 1 := by omega
      subst hse
      rw [show src.length + 1 - (src.length + 1) = 0 from by omega, Pm.find] at hfind
      simp only [Option.some.injEq] at hfind
      subst hfind
      have hge : ¬ ((src.length + 1 : Nat) : Int) ≤ src.length := by omega
      go_wp2_with fail
      refine leaves_cons (f := 35) (args := #[.pointer (some ⟨w.heap.size, 0, none⟩)]) (by simp) (by simp [go_sem]) ?_
      refine (catch_idle _ _).mono ?_
      rintro e u' w'' ⟨rfl, rfl, rfl⟩
      simp [Leaves, settle, results, Tryf.results27, go_sem, hN]
      exact ⟨HCX.out.trans HCH.out, _, _, rfl⟩
end Go.Proofs.YtkbdngcbifonkaaFmt
