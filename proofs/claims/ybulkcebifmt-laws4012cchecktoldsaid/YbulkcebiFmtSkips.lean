/- checkSkips by its three outcomes. For every F. -/
import Derived.Test.YbulkcebiFmtCalls
import Derived.Deep.RegionWith
import Derived.Deep.DeepCutAuto
namespace Go.Proofs.YbulkcebiFmt
open Go.RowKit Go.Extern.Stop Go.Stop Go.Extern

attribute [local go_sem] call19 call14 fguard fmtA fmtAr fmtB fmtBr fmtC fmtCr op9_115w op2_100 ptr57 elem57 isError57 ptr71 elem71 isError71

theorem eqFn (f : Fn) (r c : Array Value) (w : World) : (binOp .eql 30 (.func f r c) .nilFunc).run Ybaf.prog w = .ok (.bool false) w := by kernel_rfl
attribute [local go_sem] eqFn

theorem Clo.mv {f : Nat → Prop} {w w' : World} {cb gb fb sb nb : Nat} {fail : Bool} {sx : Addr} {count : Int} (h : Clo w cb gb fb sb nb fail sx count) (m : Mv f w w') (hf : ∀ k, k ≤ gb → ¬ f k) : Clo w' cb gb fb sb nb fail sx count := by
  obtain ⟨h1, h2, h3, h4, h5, o1, o2, o3, o4⟩ := h
  exact ⟨m.get h1 (hf _ (by omega)), m.get h2 (hf _ (by omega)), m.get h3 (hf _ (by omega)), m.get h4 (hf _ (by omega)), m.get h5 (hf _ (by omega)), o1, o2, o3, o4⟩

theorem Clo.dr {w : World} {cb gb fb sb nb : Nat} {fail : Bool} {sx : Addr} {count : Int} (h : Clo w cb gb fb sb nb fail sx count) : Clo w.drew cb gb fb sb nb fail sx count := ⟨h.c, h.g, h.f, h.s, h.n, h.o1, h.o2, h.o3, h.o4⟩
theorem Came.dr {k : IntKind} {w : World} {a : Option Addr} {n c : Nat} {D : List Int} (h : Came k w a n c D) : Came k w.drew a n c D := h
theorem Ran.rd {w wc : World} {cb gb n : Nat} {D : List Int} (h : Ran w.drew wc cb gb n D) : Ran w wc cb gb n D := ⟨h.1, h.2.1, ⟨h.2.2.os, h.2.2.tape, h.2.2.output, h.2.2.size, h.2.2.block⟩⟩

theorem Ran.wide {w w1 wc w' : World} {cb gb n : Nat} {D : List Int} (h : Ran w1 wc cb gb n D) (h1 : Mv (fun _ => False) w w1) (h2 : Below wc.heap.size wc w') : Ran w w' cb gb n D := by
  obtain ⟨r1, ⟨a, c, r2, r3, r4⟩, r5⟩ := h
  have m2 := Mv.of_below h2 (fun _ => False)
  refine ⟨m2.get r1 (fun e => e), ⟨a, c, m2.get r2 (fun e => e), r3.mv m2 (fun _ _ _ e => e), fun x hx => ?_⟩, ?_⟩
  · have := r4 x hx; have := h1.size; omega
  · exact ((h1.mono (g := fun k => k = cb ∨ k = gb) (fun _ _ e => e.elim)).trans r5 (fun _ _ e => e)).trans m2 (fun _ _ e => e.elim)

theorem Ran.ofN {w wc : World} {cb gb n q : Nat} {D : List Int} (h : Ran (w.drewN q) wc cb gb n D) : Ran w wc cb gb n D := by
  obtain ⟨r1, r2, r5⟩ := h
  exact ⟨r1, r2, ⟨r5.os, r5.tape, r5.output, r5.size, r5.block⟩⟩

/-- What checkSkips finds of the job and of the watch. -/
structure Job (w : World) (jb wb cb gb fb sb nb : Nat) (fail : Bool) (sx : Addr) (count : Int) (key st : ByteArray) (seen : Bool) (wn : Value) (wsk : Int) : Prop where
  clo : Clo w cb gb fb sb nb fail sx count
  key : w.cell? ⟨jb, 3, none⟩ = some (.string key)
  ins : w.cell? ⟨jb, 5, none⟩ = some (.slice none 0 0)
  fn : w.cell? ⟨jb, 15, none⟩ = some (.func (.func 6) #[] #[.pointer (some ⟨cb, 0, none⟩), .pointer (some ⟨gb, 0, none⟩), .pointer (some ⟨fb, 0, none⟩), .pointer (some ⟨sb, 0, none⟩), .pointer (some ⟨nb, 0, none⟩)])
  watch : w.heap[wb]? = some (.cells #[.bool seen, wn, .int .i64 wsk] 47 (0, 0))
  sent : w.heap[sx.block]? = some (.cells #[.string st] 59 (0, 0))
  soff : sx = ⟨sx.block, 0, none⟩
  o1 : gb < jb
  o2 : jb < wb
  o3 : sx.block < sb

def reg (rn sv : Value) : Value := .agg #[.int .u64 0, rn, sv, .int .u64 0, .slice none 0 0]
def regBox (w : World) (rn sv : Value) : World := w.alloc (.cells #[.int .u64 0, rn, sv, .int .u64 0, .slice none 0 0] 50)

set_option maxRecDepth 100000 in
set_option maxHeartbeats 1600000 in
theorem skips_fail (F : Interp) (jb wb cb gb fb sb nb : Nat) (sx : Addr) (count : Int) (key st : ByteArray) (seen : Bool) (wn rn : Value) (wsk : Int) (sa : Option Addr) (n c : Nat) (D : List Int) (w : World) (hF : F.answers w.tape)
    (J : Job w jb wb cb gb fb sb nb true sx count key st seen wn wsk) (hn : n ≤ 65536) (hD : Came .u8 w sa n c D) (hne : ∀ x, sa = some x → gb < x.block) :
    Calls Ybaf.prog 9 #[.pointer (some ⟨jb, 0, none⟩), .pointer (some ⟨wb, 0, none⟩), reg rn (.slice sa n c)] w fun e w' => ∃ pb, e = .returned (.iface 71 (.pointer (some ⟨pb, 0, none⟩))) ∧ w'.cell? ⟨pb, 1, none⟩ = some (.iface 57 (.pointer (some sx))) ∧ Ran w w' cb gb n D := by
  unfold reg
  obtain ⟨hclo, hkey, hins, hfn, hwatch, hsent, hso, o1, o2, o3⟩ := J
  have lj := World.block_lt_of_cell? w _ hkey
  simp only at lj
  have lw := lt_of_some hwatch
  have lc := lt_of_some hclo.c
  have hC1 : Clo (regBox w rn (.slice sa n c)) cb gb fb sb nb true sx count := hclo.mv (Mv.alloc w (fun _ => False) _) (fun _ _ e => e)
  have hD1 : Came .u8 (regBox w rn (.slice sa n c)) sa n c D := hD.mv (Mv.alloc w (fun _ => False) _) (fun _ _ _ e => e)
  have hneq : ∀ x, sa = some x → x.block ≠ cb := fun x hx => by have := hne x hx; have := hclo.o4; omega
  have HC := hide hC1
  have HD := hide hD1
  have HN := hide hneq
  have HSE := hide hsent
  have HCL := hide hclo
  have HSO := hide hso
  clear hclo hsent hwatch hso hC1 hD1 hneq hD hne
  go_enter Ybaf.func9, Ybaf.ntmps9
  go_wp2_with fail
  go_cut [7, 8] (fun s7 s8 wx => s7 = .int .i64 0 ∧ s8 = .iface 57 (.pointer (some sx)) ∧ Ran (regBox w rn (.slice sa n c)) wx cb gb n D)
  case first =>
    go_region_with (go_at_call 6; refine (closure_any cb gb fb sb nb true sx count sa n c D _ ?_ hn ?_ (unhide HN)).mono ?_; exact (unhide HC).dr; exact (unhide HD).dr; rintro e w2 ⟨rfl, hran⟩)
    all_goals
      go_wp2_with fail
      go_meet
      exact ⟨rfl, rfl, hran.rd⟩
  case rest =>
    obtain ⟨rfl, rfl, hran⟩ := hcut
    have hmv : Mv (fun k => k = cb ∨ k = gb) w wc := (Mv.alloc w (fun k => k = cb ∨ k = gb) _).trans hran.2.2 (fun _ _ e => e)
    have o4 := (unhide HCL).o4
    have o3' := (unhide HCL).o3
    have hkey' : wc.cell? ⟨jb, 3, none⟩ = some (.string key) := by
      rw [World.cell?_of_block (hmv.block jb lj (by omega))]; exact hkey
    have hsent' : wc.cell? sx = some (.string st) := by
      have := cell_of_one (hmv.get (unhide HSE) (by omega))
      rw [unhide HSO]; exact this
    have hF2 : F.answers wc.tape := by rw [hmv.tape]; exact hF
    have HR := hide hran
    clear hran hmv hkey hins hfn
    go_wp2_with fail
    refine (foreign F jb sx st key _ hF2 hkey' hsent').mono ?_
    rintro e w3 ⟨rfl, hcell, hb⟩
    go_wp2
    go_ret
    exact ⟨_, rfl, hcell, (unhide HR).wide (Mv.alloc w _ _) hb⟩
end Go.Proofs.YbulkcebiFmt
