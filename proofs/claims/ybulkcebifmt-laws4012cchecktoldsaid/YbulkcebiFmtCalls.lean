/- The law's closure; foreignState, between: by contracts. For every F. -/
import Derived.Test.YbulkcebiFmtBase
import Derived.Test.YbulkcebiFmtIs
import Derived.Laws.Rows
namespace Go.Proofs.YbulkcebiFmt
open Go.RowKit Go.Extern.Stop Go.Stop Go.Extern

/-! ### The closed facts of fmt's two stopped fronts -/
theorem call19 (args : Array Value) (w : World) : (callFunc 19 args).run Ybaf.prog w = ((FmtStop.errorf #[9, 70] #[25] args).run Ybaf.prog w).andThen fun v w' => .ok (.value v) w' :=
  run_callFunc_extern Ybaf.func19 (by kernel_rfl) (by kernel_rfl) (by kernel_rfl) (by kernel_rfl) args w
theorem call14 (args : Array Value) (w : World) : (callFunc 14 args).run Ybaf.prog w = ((FmtStop.sprintf #[9, 70] #[9] args).run Ybaf.prog w).andThen fun v w' => .ok (.value v) w' :=
  run_callFunc_extern Ybaf.func14 (by kernel_rfl) (by kernel_rfl) (by kernel_rfl) (by kernel_rfl) args w
theorem fguard (name : String) (w : World) : (FmtStop.guard name).run Ybaf.prog w = .ok () w := by kernel_rfl

theorem fmtA : FmtStop.printed? ⟨#[37, 115, 32, 104, 111, 108, 100, 115, 32, 97, 32, 115, 116, 97, 116, 101, 32, 116, 104, 97, 116, 32, 105, 115, 32, 110, 111, 116, 32, 116, 104, 101, 32, 106, 111, 98, 39, 115, 58, 32, 37, 119]⟩ 2 = some [(0, 115, false), (1, 119, false)] := by kernel_rfl
theorem fmtAr (w : World) : (FmtDoors.printed ⟨#[37, 115, 32, 104, 111, 108, 100, 115, 32, 97, 32, 115, 116, 97, 116, 101, 32, 116, 104, 97, 116, 32, 105, 115, 32, 110, 111, 116, 32, 116, 104, 101, 32, 106, 111, 98, 39, 115, 58, 32, 37, 119]⟩ 2).run Ybaf.prog w = .ok [(0, 115, false), (1, 119, false)] w := by kernel_rfl
theorem fmtB : FmtStop.printed? ⟨#[37, 100, 32, 114, 101, 102, 117, 115, 101, 100, 32, 105, 116, 101, 109, 115]⟩ 1 = some [(0, 100, false)] := by kernel_rfl
theorem fmtBr (w : World) : (FmtDoors.printed ⟨#[37, 100, 32, 114, 101, 102, 117, 115, 101, 100, 32, 105, 116, 101, 109, 115]⟩ 1).run Ybaf.prog w = .ok [(0, 100, false)] w := by kernel_rfl
theorem fmtC : FmtStop.printed? ⟨#[97, 110, 111, 116, 104, 101, 114, 32, 114, 117, 110, 110, 101, 114, 32, 115, 107, 105, 112, 112, 101, 100, 32, 37, 115, 32, 97, 109, 111, 110, 103, 32, 37, 115, 59, 32, 116, 104, 105, 115, 32, 114, 117, 110, 110, 101, 114, 32, 115, 107, 105, 112, 115, 32, 110, 111, 110, 101]⟩ 2 = some [(0, 115, false), (1, 115, false)] := by kernel_rfl
theorem fmtCr (w : World) : (FmtDoors.printed ⟨#[97, 110, 111, 116, 104, 101, 114, 32, 114, 117, 110, 110, 101, 114, 32, 115, 107, 105, 112, 112, 101, 100, 32, 37, 115, 32, 97, 109, 111, 110, 103, 32, 37, 115, 59, 32, 116, 104, 105, 115, 32, 114, 117, 110, 110, 101, 114, 32, 115, 107, 105, 112, 115, 32, 110, 111, 110, 101]⟩ 2).run Ybaf.prog w = .ok [(0, 115, false), (1, 115, false)] w := by kernel_rfl

def shape9 : List UInt8 := [12, 6, 0, 0, 0, 0, 0, 0, 0, 115, 116, 114, 105, 110, 103]
def shape2 : List UInt8 := [5, 5, 0, 0, 0, 0, 0, 0, 0, 105, 110, 116, 54, 52]
theorem op9_115w (name : String) (x : ByteArray) (w : World) : (FmtStop.operand name true 115 false (.iface 9 (.string x))).run Ybaf.prog w = .ok (shape9, FmtStop.pack x.data.toList) w := by kernel_rfl
theorem op2_100 (name : String) (x : Int) (w : World) : (FmtStop.operand name false 100 false (.iface 2 (.int .i64 x))).run Ybaf.prog w = .ok (shape2, Go.Extern.Stop.digits 8 (x % 2 ^ 64).toNat) w := by kernel_rfl
theorem ptr57 (w : World) : (FmtStop.ptrTo "errors.errorString").run Ybaf.prog w = .ok 57 w := by kernel_rfl
theorem elem57 (w : World) : (elemOf 57).run Ybaf.prog w = .ok 59 w := by kernel_rfl
theorem isError57 (w : World) : (FmtDoors.textMethod 57 "Error").run Ybaf.prog w = .ok true w := by kernel_rfl
theorem ptr71 (w : World) : (FmtStop.ptrTo "fmt.wrapError").run Ybaf.prog w = .ok 71 w := by kernel_rfl
theorem elem71 (w : World) : (elemOf 71).run Ybaf.prog w = .ok 143 w := by kernel_rfl
theorem isError71 (w : World) : (FmtDoors.textMethod 71 "Error").run Ybaf.prog w = .ok true w := by kernel_rfl

theorem opPlain : ∃ q : List UInt8, ∀ (name : String) (a : Addr) (s : ByteArray) (w : World), w.cell? a = some (.string s) →
    (FmtStop.operand name true 119 false (.iface 57 (.pointer (some a)))).run Ybaf.prog w = .ok (q, s.data.toList) w := by
  obtain ⟨nm, h1⟩ : ∃ nm, ∀ w, (typeStr 57).run Ybaf.prog w = .ok nm w := ⟨(Ybaf.prog.typeName? 3 57).getD default, fun w => by kernel_rfl⟩
  have d2 : Ybaf.t57.desc = .pointer 59 := rfl
  have d3 : Ybaf.t59.desc = .named "errors.errorString" 58 := rfl
  refine ⟨14 :: FmtStop.pack nm.toUTF8.data.toList, fun name a s w hc => ?_⟩
  simp [FmtStop.operand, h1, d2, d3, run_load, hc]

attribute [local go_sem] call19 call14 fguard fmtA fmtAr fmtB fmtBr fmtC fmtCr op9_115w op2_100 ptr57 elem57 isError57 ptr71 elem71 isError71

set_option maxRecDepth 100000 in
set_option maxHeartbeats 800000 in
theorem foreign (F : Interp) (jb : Nat) (x : Addr) (s key : ByteArray) (w : World) (hF : F.answers w.tape) (hkey : w.cell? ⟨jb, 3, none⟩ = some (.string key)) (hs : w.cell? x = some (.string s)) :
    Calls Ybaf.prog 13 #[.pointer (some ⟨jb, 0, none⟩), .iface 57 (.pointer (some x))] w fun e w' => e = .returned (.iface 71 (.pointer (some ⟨w.heap.size + 1, 0, none⟩))) ∧
      w'.cell? ⟨w.heap.size + 1, 1, none⟩ = some (.iface 57 (.pointer (some x))) ∧ Below w.heap.size w w' := by
  have hF' := answers_open hF
  obtain ⟨q, hq⟩ := opPlain
  have hx := World.block_lt_of_cell? w _ hs
  have hop : ∀ o : Obj, (FmtStop.operand "fmt.errorf" true 119 false (.iface 57 (.pointer (some x)))).run Ybaf.prog (w.alloc o) = .ok (q, s.data.toList) (w.alloc o) := fun o => hq "fmt.errorf" x s (w.alloc o) (by rw [((Below.refl w.heap.size w).alloc (Nat.le_refl _) o).cell hx]; exact hs)
  clear hq hs
  go_enter Ybaf.func13, Ybaf.ntmps13
  go_wp2
  go_ret
  refine ⟨rfl, ?_, ?_⟩
  · go_simp
  · exact (((Below.refl w.heap.size w).alloc (Nat.le_refl _) _).alloc (by simp) _).drew

theorem between_any (jb : Nat) (v1 v2 : Value) (w : World) (hin : w.cell? ⟨jb, 5, none⟩ = some (.slice none 0 0)) :
    Calls Ybaf.prog 16 #[.pointer (some ⟨jb, 0, none⟩), v1, v2] w fun e w' => e = .returned (.string ⟨#[]⟩) ∧ w' = w := by
  go_enter Ybaf.func16, Ybaf.ntmps16
  go_wp2
  refine wp_loop_rounds 1 ?_
  rw [rounds_succ]
  go_wp2
  go_ret
  exact ⟨rfl, rfl⟩

/-- What the closure captures. -/
structure Clo (w : World) (cb gb fb sb nb : Nat) (fail : Bool) (sx : Addr) (count : Int) : Prop where
  c : w.heap[cb]? = some (.cells #[.int .i64 0] 3 (0, 0))
  g : w.heap[gb]? = some (.cells #[.slice none 0 0] 23 (0, 0))
  f : w.heap[fb]? = some (.cells #[.bool fail] 4 (0, 0))
  s : w.heap[sb]? = some (.cells #[.iface 57 (.pointer (some sx))] 25 (0, 0))
  n : w.heap[nb]? = some (.cells #[.int .i64 count] 2 (0, 0))
  o1 : nb < fb
  o2 : fb < sb
  o3 : sb < cb
  o4 : cb < gb

/-- What the closure leaves. -/
def Ran (w w' : World) (cb gb n : Nat) (D : List Int) : Prop :=
  w'.heap[cb]? = some (.cells #[.int .i64 1] 3 (0, 0)) ∧ (∃ a c, w'.heap[gb]? = some (.cells #[.slice a n c] 23 (0, 0)) ∧ Came .u8 w' a n c D ∧ ∀ x, a = some x → w.heap.size ≤ x.block) ∧ Mv (fun k => k = cb ∨ k = gb) w w'

theorem Ran.draws {w w' : World} {cb gb n : Nat} {D : List Int} (h : Ran w w' cb gb n D) (q : Nat) : Ran w (w'.drewN q) cb gb n D := by
  obtain ⟨h1, ⟨a, c, h2, h3, h4⟩, h5⟩ := h
  exact ⟨h1, ⟨a, c, h2, h3.mv (Mv.drewN w' (fun _ => False) q) (fun _ _ _ e => e), h4⟩, h5.trans (Mv.drewN w' (fun _ => False) q) (fun _ _ e => e.elim)⟩

set_option maxRecDepth 100000 in
theorem closure_any (cb gb fb sb nb : Nat) (fail : Bool) (sx : Addr) (count : Int) (a : Option Addr) (n c : Nat) (D : List Int) (w : World) (hC : Clo w cb gb fb sb nb fail sx count) (hn : n ≤ 65536) (hD : Came .u8 w a n c D)
    (hne : ∀ x, a = some x → x.block ≠ cb) :
    Calls Ybaf.prog 6 #[.slice a n c, .pointer (some ⟨cb, 0, none⟩), .pointer (some ⟨gb, 0, none⟩), .pointer (some ⟨fb, 0, none⟩), .pointer (some ⟨sb, 0, none⟩), .pointer (some ⟨nb, 0, none⟩)] w fun e w' =>
      e = .returned (.tuple #[.int .i64 (if fail then 0 else count), if fail then .iface 57 (.pointer (some sx)) else .nilIface]) ∧ Ran w w' cb gb n D := by
  obtain ⟨hc, hg, hf, hs, hnn, o1, o2, o3, o4⟩ := hC
  have lc := lt_of_some hc
  have lg := lt_of_some hg
  have cc := cell_of_one hc
  have fc := free_of_one hc
  obtain ⟨w1, hw1⟩ : ∃ w1, w1 = w.setCell ⟨cb, 0, none⟩ (.int .i64 1) := ⟨_, rfl⟩
  have m1 : Mv (fun k => k = cb) w w1 := by rw [hw1]; exact Mv.setCell w ⟨cb, 0, none⟩ _
  have c1 : w1.heap[cb]? = some (.cells #[.int .i64 1] 3 (0, 0)) := by rw [hw1]; exact one_setCell hc
  have hD1 : Came .u8 w1 a n c D := hD.mv m1 (fun x hx _ => hne x hx)
  have HC := hide hc
  have HG := hide hg
  have HF := hide hf
  have HS := hide hs
  have HN := hide hnn
  have HW := hide hw1
  clear hc hg hf hs hnn hw1 hD hne
  go_enter Ybaf.func6, Ybaf.ntmps6
  go_wp2_with fail
  rw [← unhide HW]
  refine (clone23_any a n c D w1 hn hD1).mono ?_
  rintro e w2 ⟨a', c', rfl, hD2, hnew, hb⟩
  have m2 : Mv (fun k => k = cb) w w2 := m1.trans (Mv.of_below hb (fun _ => False)) (fun _ _ h => h.elim)
  have g2 := m2.get (unhide HG) (by omega)
  have c2 : w2.heap[cb]? = some (.cells #[.int .i64 1] 3 (0, 0)) := (Mv.of_below hb (fun _ => False)).get c1 (fun h => h)
  have cg := cell_of_one g2
  have fg := free_of_one g2
  obtain ⟨w3, hw3⟩ : ∃ w3, w3 = w2.setCell ⟨gb, 0, none⟩ (.slice a' n c') := ⟨_, rfl⟩
  have ms : Mv (fun k => k = gb) w2 w3 := by rw [hw3]; exact Mv.setCell w2 ⟨gb, 0, none⟩ _
  have m3 : Mv (fun k => k = cb ∨ k = gb) w w3 := (m2.mono (g := fun k => k = cb ∨ k = gb) (fun _ _ h => .inl h)).trans ms (fun _ _ h => .inr h)
  have hsz : w.heap.size ≤ w1.heap.size := m1.size
  have hran : Ran w w3 cb gb n D := by
    refine ⟨ms.get c2 (by omega), ⟨a', c', by rw [hw3]; exact one_setCell g2, hD2.mv ms (fun x hx _ e => ?_), fun x hx => ?_⟩, m3⟩
    · have := hnew x hx; omega
    · have := hnew x hx; omega
  have cf := cell_of_one (m2.get (unhide HF) (by omega))
  have cs := cell_of_one (m2.get (unhide HS) (by omega))
  have cn := cell_of_one (m2.get (unhide HN) (by omega))
  have HR := hide hran
  have HW3 := hide hw3
  clear hran hw3 m3 ms c2 c1 hD1 hD2 hnew hb m2 m1
  cases fail with
  | true =>
    go_wp2_with fail
    go_quiet (fail)
    go_wp2
    go_ret2
    refine ⟨rfl, ?_⟩
    rw [← unhide HW3]
    exact (unhide HR).draws _
  | false =>
    go_wp2
    go_ret2
    refine ⟨rfl, ?_⟩
    rw [← unhide HW3]
    exact unhide HR
end Go.Proofs.YbulkcebiFmt
