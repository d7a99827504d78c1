/- checkSkips where the counter does not fail: kept, or refused. For every F. -/
import Derived.Test.YbulkcebiFmtSkips
namespace Go.Proofs.YbulkcebiFmt
open Go.RowKit Go.Extern.Stop Go.Stop Go.Extern

attribute [local go_sem] call19 call14 fguard fmtA fmtAr fmtB fmtBr fmtC fmtCr op9_115w op2_100 ptr57 elem57 isError57 ptr71 elem71 isError71 eqFn

/-- The block of the watch behind the store of all three fields. -/
theorem watch_set {w : World} {wb : Nat} {x y z x' y' z' : Value} (h : w.heap[wb]? = some (.cells #[x, y, z] 47 (0, 0))) :
    (((w.setCell ⟨wb, 0, none⟩ x').setCell ⟨wb, 1, none⟩ y').setCell ⟨wb, 2, none⟩ z').heap[wb]? = some (.cells #[x', y', z'] 47 (0, 0)) :=
  heap_setCell_same _ wb 2 _ 47 z' (heap_setCell_same _ wb 1 _ 47 y' (heap_setCell_same _ wb 0 _ 47 x' h))

set_option maxRecDepth 100000 in
set_option maxHeartbeats 1600000 in
theorem skips_ok (jb wb cb gb fb sb nb : Nat) (sx : Addr) (count : Int) (key st : ByteArray) (seen : Bool) (wa ra : Option Addr) (wl wcp rl rcp : Nat) (wsk : Int) (sa : Option Addr) (n c : Nat) (D : List Int) (w : World)
    (J : Job w jb wb cb gb fb sb nb false sx count key st seen (.slice wa wl wcp) wsk) (hn : n ≤ 65536) (hD : Came .u8 w sa n c D) (hne : ∀ x, sa = some x → gb < x.block) (hok : seen = false ∨ count ≤ wsk) :
    Calls Ybaf.prog 9 #[.pointer (some ⟨jb, 0, none⟩), .pointer (some ⟨wb, 0, none⟩), reg (.slice ra rl rcp) (.slice sa n c)] w fun e w' => e = .returned .nilIface ∧
      ∃ wx, Ran w wx cb gb n D ∧ w'.heap[wb]? = some (.cells #[.bool true, .slice ra rl rcp, .int .i64 count] 47 (0, 0)) ∧ Mv (fun k => k = wb) wx w' := by
  unfold reg
  obtain ⟨hclo, hkey, hins, hfn, hwatch, hsent, hso, o1, o2, o3⟩ := J
  have lj := World.block_lt_of_cell? w _ hkey
  simp only at lj
  have lw := lt_of_some hwatch
  have o4 := hclo.o4
  have hC1 : Clo (regBox w (.slice ra rl rcp) (.slice sa n c)) cb gb fb sb nb false sx count := hclo.mv (Mv.alloc w (fun _ => False) _) (fun _ _ e => e)
  have hD1 : Came .u8 (regBox w (.slice ra rl rcp) (.slice sa n c)) sa n c D := hD.mv (Mv.alloc w (fun _ => False) _) (fun _ _ _ e => e)
  have hneq : ∀ x, sa = some x → x.block ≠ cb := fun x hx => by have := hne x hx; omega
  have HC := hide hC1
  have HD := hide hD1
  have HN := hide hneq
  have HWA := hide hwatch
  have HOK := hide hok
  clear hclo hsent hwatch hso hC1 hD1 hneq hD hne hkey hins hok
  go_enter Ybaf.func9, Ybaf.ntmps9
  go_wp2_with fail
  go_cut [7, 8] (fun s7 s8 wx => s7 = .int .i64 count ∧ s8 = .nilIface ∧ Ran (regBox w (.slice ra rl rcp) (.slice sa n c)) wx cb gb n D)
  case first =>
    go_region_with (go_at_call 6; refine (closure_any cb gb fb sb nb false sx count sa n c D _ ?_ hn ?_ (unhide HN)).mono ?_; exact (unhide HC).dr; exact (unhide HD).dr; rintro e w2 ⟨rfl, hran⟩)
    all_goals
      go_wp2_with fail
      go_meet
      exact ⟨rfl, rfl, hran.rd⟩
  case rest =>
    obtain ⟨rfl, rfl, hran⟩ := hcut
    have hmv : Mv (fun k => k = cb ∨ k = gb) w wc := (Mv.alloc w (fun k => k = cb ∨ k = gb) _).trans hran.2.2 (fun _ _ e => e)
    have hw' := hmv.get (unhide HWA) (by omega)
    have k0 : wc.cell? ⟨wb, 0, none⟩ = some (.bool seen) := cell_at hw'
    have k1 : wc.cell? ⟨wb, 1, none⟩ = some (.slice wa wl wcp) := cell_at hw'
    have k2 : wc.cell? ⟨wb, 2, none⟩ = some (.int .i64 wsk) := cell_at hw'
    have f0 : wc.frozen? ⟨wb, 0, none⟩ = false := free_at hw'
    have f1 : wc.frozen? ⟨wb, 1, none⟩ = false := free_at hw'
    have f2 : wc.frozen? ⟨wb, 2, none⟩ = false := free_at hw'
    have hr : wc.heap[w.heap.size]? = some (.cells #[.int .u64 0, .slice ra rl rcp, .slice sa n c, .int .u64 0, .slice none 0 0] 50 (0, 0)) := by
      refine hran.2.2.get (heap_alloc_new w _) ?_
      omega
    have r1 : wc.cell? ⟨w.heap.size, 1, none⟩ = some (.slice ra rl rcp) := cell_at hr
    have hws := watch_set (x' := .bool true) (y' := .slice ra rl rcp) (z' := .int .i64 count) hw'
    have hms : Mv (fun k => k = wb) wc (((wc.setCell ⟨wb, 0, none⟩ (.bool true)).setCell ⟨wb, 1, none⟩ (.slice ra rl rcp)).setCell ⟨wb, 2, none⟩ (.int .i64 count)) :=
      ((Mv.setCell wc ⟨wb, 0, none⟩ _).trans (Mv.setCell _ ⟨wb, 1, none⟩ _) (fun _ _ e => e)).trans (Mv.setCell _ ⟨wb, 2, none⟩ _) (fun _ _ e => e)
    have HR := hide (hran.wide (Mv.alloc w _ _) (Below.refl _ _))
    have HWS := hide hws
    have HMS := hide hms
    clear hran hmv hfn hw' hr hws hms
    cases seen with
    | false =>
      go_wp2
      go_ret
      exact ⟨rfl, wc, unhide HR, unhide HWS, unhide HMS⟩
    | true =>
      have hle : count ≤ wsk := by
        rcases unhide HOK with h | h
        · cases h
        · exact h
      go_wp2
      go_ret
      exact ⟨rfl, wc, unhide HR, unhide HWS, unhide HMS⟩

set_option maxRecDepth 100000 in
set_option maxHeartbeats 800000 in
/-- Errorf of the two texts. -/
theorem errorf_c (F : Interp) (b : Nat) (s t : ByteArray) (w : World) (hF : F.answers w.tape) (h0 : w.cell? ⟨b, 0, none⟩ = some (.iface 9 (.string s))) (h1 : w.cell? ⟨b, 1, none⟩ = some (.iface 9 (.string t))) :
    Calls Ybaf.prog 15 #[.string ⟨#[97, 110, 111, 116, 104, 101, 114, 32, 114, 117, 110, 110, 101, 114, 32, 115, 107, 105, 112, 112, 101, 100, 32, 37, 115, 32, 97, 109, 111, 110, 103, 32, 37, 115, 59, 32, 116, 104, 105, 115, 32, 114, 117, 110, 110, 101, 114, 32, 115, 107, 105, 112, 115, 32, 110, 111, 110, 101]⟩, .slice (some ⟨b, 0, none⟩) 2 2] w fun e w' =>
      e = .returned (.iface 57 (.pointer (some ⟨w.heap.size, 0, none⟩))) ∧ (∃ x, w'.heap[w.heap.size]? = some (.cells #[.string x] 59 (0, 0))) ∧ Below w.heap.size w w' := by
  have hF' := answers_open hF
  go_enter Ybaf.func15, Ybaf.ntmps15
  go_wp2
  go_ret
  exact ⟨rfl, Exists.intro _ (heap_alloc_new w (.cells #[.string _] 59)), ((Below.refl w.heap.size w).alloc (Nat.le_refl _) _).drew⟩

/-- The same, the two operands just laid. -/
theorem errorf_at (F : Interp) (s t : ByteArray) (w : World) (hF : F.answers w.tape) :
    Calls Ybaf.prog 15 #[.string ⟨#[97, 110, 111, 116, 104, 101, 114, 32, 114, 117, 110, 110, 101, 114, 32, 115, 107, 105, 112, 112, 101, 100, 32, 37, 115, 32, 97, 109, 111, 110, 103, 32, 37, 115, 59, 32, 116, 104, 105, 115, 32, 114, 117, 110, 110, 101, 114, 32, 115, 107, 105, 112, 115, 32, 110, 111, 110, 101]⟩, .slice (some ⟨w.heap.size, 0, none⟩) 2 2]
      (w.alloc (.cells #[.iface 9 (.string s), .iface 9 (.string t)] 20)).drew fun e w' =>
      ∃ pb x, e = .returned (.iface 57 (.pointer (some ⟨pb, 0, none⟩))) ∧ w'.heap[pb]? = some (.cells #[.string x] 59 (0, 0)) ∧ w.heap.size ≤ pb ∧ Below w.heap.size w w' := by
  have hb0 := heap_alloc_new w (.cells #[.iface 9 (.string s), .iface 9 (.string t)] 20)
  refine (errorf_c F w.heap.size s t (w.alloc (.cells #[.iface 9 (.string s), .iface 9 (.string t)] 20)).drew hF (cell_at (w := (w.alloc (.cells #[.iface 9 (.string s), .iface 9 (.string t)] 20)).drew) hb0) (cell_at (w := (w.alloc (.cells #[.iface 9 (.string s), .iface 9 (.string t)] 20)).drew) hb0)).mono ?_
  rintro e w' ⟨rfl, ⟨x, hx⟩, hb⟩
  refine ⟨_, x, rfl, hx, ?_, (((Below.refl w.heap.size w).alloc (Nat.le_refl _) _).drew).trans (hb.mono ?_)⟩
  · simp
  · simp

set_option maxRecDepth 100000 in
set_option maxHeartbeats 1600000 in
theorem skips_refuse (F : Interp) (jb wb cb gb fb sb nb : Nat) (sx : Addr) (count : Int) (key st : ByteArray) (wa ra : Option Addr) (wl wcp rl rcp : Nat) (wsk : Int) (sa : Option Addr) (n c : Nat) (D : List Int) (w : World) (hF : F.answers w.tape)
    (J : Job w jb wb cb gb fb sb nb false sx count key st true (.slice wa wl wcp) wsk) (hn : n ≤ 65536) (hD : Came .u8 w sa n c D) (hne : ∀ x, sa = some x → gb < x.block) (hgt : wsk < count) :
    Calls Ybaf.prog 9 #[.pointer (some ⟨jb, 0, none⟩), .pointer (some ⟨wb, 0, none⟩), reg (.slice ra rl rcp) (.slice sa n c)] w fun e w' =>
      ∃ pb x, e = .returned (.iface 57 (.pointer (some ⟨pb, 0, none⟩))) ∧ w'.heap[pb]? = some (.cells #[.string x] 59 (0, 0)) ∧ w.heap.size ≤ pb ∧ Ran w w' cb gb n D := by
  unfold reg
  obtain ⟨hclo, hkey, hins, hfn, hwatch, hsent, hso, o1, o2, o3⟩ := J
  have lj := World.block_lt_of_cell? w _ hkey
  simp only at lj
  have lw := lt_of_some hwatch
  have o4 := hclo.o4
  have hC1 : Clo (regBox w (.slice ra rl rcp) (.slice sa n c)) cb gb fb sb nb false sx count := hclo.mv (Mv.alloc w (fun _ => False) _) (fun _ _ e => e)
  have hD1 : Came .u8 (regBox w (.slice ra rl rcp) (.slice sa n c)) sa n c D := hD.mv (Mv.alloc w (fun _ => False) _) (fun _ _ _ e => e)
  have hneq : ∀ x, sa = some x → x.block ≠ cb := fun x hx => by have := hne x hx; omega
  have HC := hide hC1
  have HD := hide hD1
  have HN := hide hneq
  have HWA := hide hwatch
  have HIN := hide hins
  clear hclo hsent hwatch hso hC1 hD1 hneq hD hne hkey hins
  go_enter Ybaf.func9, Ybaf.ntmps9
  go_wp2_with fail
  go_cut [7, 8] (fun s7 s8 wx => s7 = .int .i64 count ∧ s8 = .nilIface ∧ Ran (regBox w (.slice ra rl rcp) (.slice sa n c)) wx cb gb n D)
  case first =>
    go_region_with (go_at_call 6; refine (closure_any cb gb fb sb nb false sx count sa n c D _ ?_ hn ?_ (unhide HN)).mono ?_; exact (unhide HC).dr; exact (unhide HD).dr; rintro e w2 ⟨rfl, hran⟩)
    all_goals
      go_wp2_with fail
      go_meet
      exact ⟨rfl, rfl, hran.rd⟩
  case rest =>
    obtain ⟨rfl, rfl, hran⟩ := hcut
    have hmv : Mv (fun k => k = cb ∨ k = gb) w wc := (Mv.alloc w (fun k => k = cb ∨ k = gb) _).trans hran.2.2 (fun _ _ e => e)
    have hw' := hmv.get (unhide HWA) (by omega)
    have k0 : wc.cell? ⟨wb, 0, none⟩ = some (.bool true) := cell_at hw'
    have k1 : wc.cell? ⟨wb, 1, none⟩ = some (.slice wa wl wcp) := cell_at hw'
    have k2 : wc.cell? ⟨wb, 2, none⟩ = some (.int .i64 wsk) := cell_at hw'
    have hr : wc.heap[w.heap.size]? = some (.cells #[.int .u64 0, .slice ra rl rcp, .slice sa n c, .int .u64 0, .slice none 0 0] 50 (0, 0)) := by
      refine hran.2.2.get (heap_alloc_new w _) ?_
      omega
    have r1 : wc.cell? ⟨w.heap.size, 1, none⟩ = some (.slice ra rl rcp) := cell_at hr
    have hin' : wc.cell? ⟨jb, 5, none⟩ = some (.slice none 0 0) := by
      rw [World.cell?_of_block (hmv.block jb lj (by omega))]; exact unhide HIN
    have hF2 : F.answers wc.tape := by rw [hmv.tape]; exact hF
    have hF' := answers_open hF2
    have ls := hmv.size
    have lr := lt_of_some hr
    have lw2 := lt_of_some hw'
    have HR := hide hran
    clear hran hmv hfn hw' hr
    have hcl : ∀ (wy w2 : World) (pb : Nat) (x : ByteArray), Mv (fun _ => False) wc wy → w2.heap[pb]? = some (.cells #[.string x] 59 (0, 0)) → wy.heap.size ≤ pb → Below wy.heap.size wy w2 → w2.heap[pb]? = some (.cells #[.string x] 59 (0, 0)) ∧ w.heap.size ≤ pb ∧ Ran w w2 cb gb n D := fun wy w2 pb x m h1 h2 h3 => by
      have := m.size
      exact ⟨h1, by omega, (unhide HR).wide (Mv.alloc w _ _) ((m.below (Nat.le_refl _) (fun _ _ e => e)).trans (h3.mono this))⟩
    have HCL := hide hcl
    clear hcl
    by_cases hd : wrap64 (count - wsk) ≤ 1
    · go_wp2_with fail
      go_region_with (first
        | (go_at_call 16; refine (between_any jb _ _ _ ?_).mono ?_; exact hin'; rintro e w2 ⟨rfl, rfl⟩)
        | (go_at_call 15; refine (errorf_at F _ _ _ ?_).mono ?_; exact hF2; rintro e w2 ⟨pb, x, rfl, hx1, hx2, hx3⟩))
      all_goals
        go_wp2
        go_ret
        exact ⟨_, _, rfl, unhide HCL _ _ _ _ (Mv.refl _ _) hx1 hx2 hx3⟩
    · have hd' : 1 < wrap64 (count - wsk) := by omega
      go_wp2_with fail
      obtain ⟨wy, hwy⟩ : ∃ wy, wy = (wc.alloc (.cells #[.iface 2 (.int .i64 (wrap64 (count - wsk)))] 20)).drew := ⟨_, rfl⟩
      rw [← hwy]
      have my : Mv (fun _ => False) wc wy := by rw [hwy]; exact (Mv.alloc wc _ _).trans (Mv.drewN _ (fun _ => False) 1) (fun _ _ e => e)
      have y1 : wy.cell? ⟨wb, 1, none⟩ = some (.slice wa wl wcp) := by rw [World.cell?_of_block (my.block wb lw2 (fun e => e))]; exact k1
      have y2 : wy.cell? ⟨w.heap.size, 1, none⟩ = some (.slice ra rl rcp) := by rw [World.cell?_of_block (my.block w.heap.size lr (fun e => e))]; exact r1
      have y3 : wy.cell? ⟨jb, 5, none⟩ = some (.slice none 0 0) := by rw [World.cell?_of_block (my.block jb (by omega) (fun e => e))]; exact hin'
      have hF3 : F.answers wy.tape := by rw [my.tape]; exact hF2
      have MY := hide my
      clear hwy my hF' k0 k1 k2 r1 hin' hF2
      go_region_with (first
        | (go_at_call 16; refine (between_any jb _ _ _ ?_).mono ?_; exact y3; rintro e w2 ⟨rfl, rfl⟩)
        | (go_at_call 15; refine (errorf_at F _ _ _ ?_).mono ?_; exact hF3; rintro e w2 ⟨pb, x, rfl, hx1, hx2, hx3⟩))
      all_goals
        go_wp2
        go_ret
        exact ⟨_, _, rfl, unhide HCL _ _ _ _ (unhide MY) hx1 hx2 hx3⟩
end Go.Proofs.YbulkcebiFmt
