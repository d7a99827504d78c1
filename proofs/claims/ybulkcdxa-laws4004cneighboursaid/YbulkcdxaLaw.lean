/- The law's own walk, case by case. -/
import Derived.Test.YbulkcdxaLinks
import Derived.Maps.OwnSet
import Derived.OpenShut
namespace Go.Proofs.Ybulkcdxa
open Go.RowKit
open Go.MuLone
open Go.ChangeMaps (setBlock)

theorem hide {p : Prop} (h : p) : Hid p := h
theorem unhide {p : Prop} (h : Hid p) : p := h

theorem make39 (n : Int) (w : World) : (Instr.makeMap 39 (some (.int .i64 n))).run Yba.prog w = .ok (.map (some w.heap.size)) (w.alloc (.map #[] 0)) := by kernel_rfl
theorem nilSlice (w : World) (a : Option Addr) (n c : Nat) : (binOp .neq 22 (.slice a n c) (.slice none 0 0)).run Yba.prog w = .ok (.bool !a.isNone) w := run_neq_slice_nil_any w 22 5 a n c 0 0 Yba.underlying22

theorem law_big (a : Option Addr) (len cap : Nat) (w : World) (hcap : len ≤ 9223372036854775807) (h : 1024 < len) :
    Calls Yba.prog 3 #[.slice a len cap] w fun e w' => e = .returned (.bool true) ∧ Below w.heap.size w w' := by
  go_enter Yba.func3, Yba.ntmps3
  go_wp2
  go_ret
  exact ⟨rfl, Below.refl _ _⟩

/-- The new Server's cells, the map 'm' in its field conns. -/
def srv (m : Value) : Array Value := #[.pointer none, .string ⟨#[]⟩, .bool false, .int .i64 0, .nilFunc, .int .i64 0, .nilFunc, .pointer none, .int .i32 0, .int .u32 0, .bool false, .map none, m, .int .u64 0, .int .u32 0, .chan none, .nilFunc]

theorem len_map (w : World) (ty b : Nat) (es : Array MapEntry) (n : Nat) (hb : w.heap[b]? = some (.map es n)) : (Builtin.len_ #[39] ty #[.map (some b)]).run Yba.prog w = .ok (.int .i64 es.size) w := by
  simp [Builtin.len_, run_underlying Yba.underlying39, MapKept.run_getObj_map hb, goInt]

theorem srv_cell (w : World) (m : Value) (i : Nat) : (w.alloc (.cells (srv m) 50)).cell? ⟨w.heap.size, i, none⟩ = (srv m)[i]? := by
  unfold World.cell?
  rw [heap_alloc_new]
  rfl
theorem srv_frozen (w : World) (m : Value) (i : Nat) : (w.alloc (.cells (srv m) 50)).frozen? ⟨w.heap.size, i, none⟩ = false := by
  unfold World.frozen?
  rw [heap_alloc_new]
  simp

set_option maxRecDepth 100000 in
set_option maxHeartbeats 1600000 in
theorem law_nil (w : World) :
    Calls Yba.prog 3 #[.slice none 0 0] w fun e w' => e = .returned (.bool true) ∧ Below w.heap.size w w' := by
  have hn := nilSlice
  go_enter Yba.func3, Yba.ntmps3
  go_wp2_with fail
  refine (links_nil w.heap.size (w.alloc (.cells (srv (.map none)) 50)) (by rw [srv_cell]; rfl) (srv_frozen _ _ _) (by rw [srv_cell]; rfl)).mono ?_
  rintro e w1 ⟨rfl, hb⟩
  have h8 : w1.cell? ⟨w.heap.size, 8, none⟩ = some (.int .i32 0) := by rw [hb.cell (by simp), srv_cell]; rfl
  have f8 : w1.frozen? ⟨w.heap.size, 8, none⟩ = false := by rw [hb.frozen (by simp)]; exact srv_frozen _ _ _
  have h10 : w1.cell? ⟨w.heap.size, 10, none⟩ = some (.bool false) := by rw [hb.cell (by simp), srv_cell]; rfl
  have h12 : w1.cell? ⟨w.heap.size, 12, none⟩ = some (.map none) := by rw [hb.cell (by simp), srv_cell]; rfl
  have hl : ∀ ty (w : World), (Builtin.len_ #[39] ty #[.map none]).run Yba.prog w = .ok (.int .i64 0) w := fun ty w => Maps.len_nil Yba.underlying39 ty
  have HB : Hid (Below w.heap.size w w1) := ((Below.refl _ _).alloc (Nat.le_refl _) _).trans (hb.mono (by simp))
  clear hb
  go_wp2
  refine wp_loop_rounds 1 ?_
  rw [rounds_succ]
  go_wp2_with fail
  refine (try_free _ _ h8 f8).mono ?_
  rintro e w2 ⟨rfl, hw2⟩
  have h8' : w2.cell? ⟨w.heap.size, 8, none⟩ = some (.int .i32 1) := by rw [hw2]; exact World.cell?_setCell_same _ _ _ h8
  have f8' : w2.frozen? ⟨w.heap.size, 8, none⟩ = false := by rw [hw2]; simpa using f8
  have HB2 : Hid (Below w.heap.size w w2) := by rw [hw2]; exact HB.out.setCell (Nat.le_refl _) _
  clear hw2 h8 f8
  go_wp2_with fail
  refine (unlock_held Yba.muLib _ _ h8' f8').mono ?_
  rintro e w3 ⟨rfl, hw3⟩
  have HB3 : Hid (Below w.heap.size w w3) := by rw [hw3]; exact HB2.out.setCell (Nat.le_refl _) _
  clear hw3
  go_wp2
  go_ret
  exact ⟨rfl, HB3.out⟩

/-- What the map holds at a drawn kind z. -/
def okk (N : Nat) (wr : World) (z : Int) (k : Option (Nat × Bool)) : Prop :=
  (z % 3 = 0 ∧ k = none) ∨ (z % 3 = 1 ∧ ∃ p, N + 1 < p ∧ k = some (p, false) ∧ wr.cell? ⟨p, 3, none⟩ = some (.bool false)) ∨
  (z % 3 = 2 ∧ ∃ p, N + 1 < p ∧ k = some (p, true) ∧ wr.cell? ⟨p, 3, none⟩ = some (.bool true))

theorem lt_of_below {N B : Nat} {w wr : World} (h : Below B w wr) (h2 : N < w.heap.size) : N < wr.heap.size := Nat.lt_of_lt_of_le h2 h.size

theorem w0_old {w w0 : World} {o o' : Obj} (h0 : w0 = (w.alloc o).alloc o') (a : Addr) (h : a.block < w.heap.size) : w0.cell? a = w.cell? a := by
  have hb : Below w.heap.size w w0 := by rw [h0]; exact ((Below.refl _ _).alloc (Nat.le_refl _) _).alloc (by simp) _
  exact hb.cell h
theorem w0_srv {w w0 : World} {m : Value} {o' : Obj} (h0 : w0 = (w.alloc (.cells (srv m) 50)).alloc o') (i : Nat) : w0.cell? ⟨w.heap.size, i, none⟩ = (srv m)[i]? := by
  have hb : Below (w.heap.size + 1) (w.alloc (.cells (srv m) 50)) w0 := by rw [h0]; exact (Below.refl _ _).alloc (by simp) _
  rw [hb.cell (by simp), srv_cell]
theorem w0_frozen {w w0 : World} {m : Value} {o' : Obj} (h0 : w0 = (w.alloc (.cells (srv m) 50)).alloc o') (i : Nat) : w0.frozen? ⟨w.heap.size, i, none⟩ = false := by
  have hb : Below (w.heap.size + 1) (w.alloc (.cells (srv m) 50)) w0 := by rw [h0]; exact (Below.refl _ _).alloc (by simp) _
  rw [hb.frozen (by simp), srv_frozen]
theorem w0_below {w w0 : World} {o o' : Obj} (h0 : w0 = (w.alloc o).alloc o') : Below w.heap.size w w0 := by
  rw [h0]; exact ((Below.refl _ _).alloc (Nat.le_refl _) _).alloc (by simp) _

theorem okk.mono {N : Nat} {wr wr' : World} {z : Int} {k : Option (Nat × Bool)} (h : okk N wr z k) (hs : ∀ p v, N + 1 < p → wr.cell? ⟨p, 3, none⟩ = some v → wr'.cell? ⟨p, 3, none⟩ = some v) : okk N wr' z k := by
  rcases h with h | ⟨h0, p, h1, h2, h3⟩ | ⟨h0, p, h1, h2, h3⟩
  · exact .inl h
  · exact .inr (.inl ⟨h0, p, h1, h2, hs p _ h1 h3⟩)
  · exact .inr (.inr ⟨h0, p, h1, h2, hs p _ h1 h3⟩)

def connC (nb : Bool) : Array Value := #[.nilIface, .pointer none, .bool false, .bool nb, .int .i32 0, .int .u32 0, .pointer none, .pointer none, .bool false, .nilIface, .int .i32 0, .int .u32 0, .bool false, .int .i32 0, .int .u32 0, .slice none 0 0, .chan none]

theorem setBlock_cell (w : World) (r : Nat) (o : Obj) (a : Addr) (h : a.block ≠ r) : (setBlock w r o).cell? a = w.cell? a := by
  unfold World.cell?
  simp only [setBlock, Array.getElem?_setIfInBounds]
  rw [if_neg (fun e => h e.symm)]

/-- One entry more: what the loop's relation wants behind it. -/
theorem put_step {N : Nat} {w0 wr wx : World} {ks : List (Option (Nat × Bool))} {zs : List Int} {k : Option (Nat × Bool)}
    (hm : wx.heap[N + 1]? = some (.map (ents 0 (ks.map val)).toArray (ks.map val).length)) (hbel : Below (N + 1) w0 wx) (hsz : N + 1 < wx.heap.size)
    (hok : ∀ i k, ks[i]? = some k → okk N wr (zs.getD i 0) k) (hx : ∀ p v, N + 1 < p → wr.cell? ⟨p, 3, none⟩ = some v → wx.cell? ⟨p, 3, none⟩ = some v) (hk : okk N wx (zs.getD ks.length 0) k) :
    ∃ w3, (Instr.mapUpdate 39 (.map (some (N + 1))) (.iface 63 (.agg #[.nilIface, .int .i64 ks.length])) (val k)).run Yba.prog wx = .ok () w3 ∧
      w3.heap[N + 1]? = some (.map (ents 0 ((ks ++ [k]).map val)).toArray ((ks ++ [k]).map val).length) ∧ Below (N + 1) w0 w3 ∧ N + 1 < w3.heap.size ∧
      ∀ i k', (ks ++ [k])[i]? = some k' → okk N w3 (zs.getD i 0) k' := by
  have hp := run_put wx (N + 1) (ks.map val) (val k) hm
  rw [List.length_map] at hp
  have e : ks.map val ++ [val k] = (ks ++ [k]).map val := by simp
  rw [e] at hp
  have hs : ∀ p v, N + 1 < p → wx.cell? ⟨p, 3, none⟩ = some v → (setBlock wx (N + 1) (.map (ents 0 ((ks ++ [k]).map val)).toArray ((ks ++ [k]).map val).length)).cell? ⟨p, 3, none⟩ = some v := fun p v hp h => by
    rw [setBlock_cell _ _ _ _ (by simp; omega)]; exact h
  refine ⟨_, hp, setBlock_at _ _ _ hsz, hbel.trans (setBlock_below _ _ _), by simpa [setBlock] using hsz, fun i k' hi => ?_⟩
  rcases Nat.lt_or_ge i ks.length with hl | hl
  · rw [List.getElem?_append_left hl] at hi
    exact ((hok i k' hi).mono hx).mono hs
  · rw [List.getElem?_append_right hl] at hi
    have h0 : i - ks.length = 0 := by
      rcases Nat.eq_zero_or_pos (i - ks.length) with h0 | h0
      · exact h0
      · rw [List.getElem?_eq_none (by simp; omega)] at hi; cases hi
    rw [h0] at hi
    simp at hi
    subst hi
    have : i = ks.length := by omega
    subst this
    exact hk.mono hs

theorem put_conn {N : Nat} {w0 wr : World} {ks : List (Option (Nat × Bool))} {zs : List Int} (nb : Bool) (hnb : zs.getD ks.length 0 % 3 = if nb then 2 else 1)
    (hm : wr.heap[N + 1]? = some (.map (ents 0 (ks.map val)).toArray (ks.map val).length)) (hbel : Below (N + 1) w0 wr) (hsz : N + 1 < wr.heap.size)
    (hok : ∀ i k, ks[i]? = some k → okk N wr (zs.getD i 0) k) :
    ∃ w3, (Instr.mapUpdate 39 (.map (some (N + 1))) (.iface 63 (.agg #[.nilIface, .int .i64 ks.length])) (.pointer (some ⟨wr.heap.size, 0, none⟩))).run Yba.prog (wr.alloc (.cells (connC nb) 61)) = .ok () w3 ∧
      w3.heap[N + 1]? = some (.map (ents 0 ((ks ++ [some (wr.heap.size, nb)]).map val)).toArray ((ks ++ [some (wr.heap.size, nb)]).map val).length) ∧ Below (N + 1) w0 w3 ∧ N + 1 < w3.heap.size ∧
      ∀ i k', (ks ++ [some (wr.heap.size, nb)])[i]? = some k' → okk N w3 (zs.getD i 0) k' := by
  have hc : (wr.alloc (.cells (connC nb) 61)).cell? ⟨wr.heap.size, 3, none⟩ = some (.bool nb) := by
    unfold World.cell?
    rw [heap_alloc_new]
    rfl
  refine put_step (wr := wr) (wx := wr.alloc (.cells (connC nb) 61)) (k := some (wr.heap.size, nb)) ?_ (hbel.alloc (by omega) _) (by simp; omega) hok (fun p v hp h => ?_) ?_
  · rw [heap_alloc_old _ _ hsz]; exact hm
  · have := lt_of_cell h
    rw [((Below.refl wr.heap.size wr).alloc (Nat.le_refl _) _).cell this]; exact h
  · cases nb
    · exact .inr (.inl ⟨by simpa using hnb, _, hsz, rfl, hc⟩)
    · exact .inr (.inr ⟨by simpa using hnb, _, hsz, rfl, hc⟩)

theorem any_snoc (ks : List (Option (Nat × Bool))) (k : Option (Nat × Bool)) : (ks ++ [k]).any isNb = (ks.any isNb || isNb k) := by simp

set_option maxRecDepth 100000 in
set_option maxHeartbeats 1600000 in
theorem law_some (b off : Nat) (sp : Option Nat) (len cap : Nat) (zs : List Int) (w : World) (hsp : 0 < len → sp = none) (h : len ≤ 1024) (hz : len ≤ zs.length)
    (hc : ∀ i, i < len → w.cell? ⟨b, off + i, none⟩ = some (.int .u8 (zs.getD i 0))) (hw : ∀ n ∈ zs, (Lit.int .u8 n).wf = true) :
    Calls Yba.prog 3 #[.slice (some ⟨b, off, sp⟩) len cap] w fun e w' => e = .returned (.bool true) ∧ Below w.heap.size w w' := by
  have hn := nilSlice
  have hmk := make39
  have hbig : decide (1024 < (len : Int)) = false := by simp; omega
  have HC : Hid (∀ i, i < len → w.cell? ⟨b, off + i, none⟩ = some (.int .u8 (zs.getD i 0))) := hc
  have HW : Hid (∀ n ∈ zs, (Lit.int .u8 n).wf = true) := hw
  clear hc hw
  go_enter Yba.func3, Yba.ntmps3
  go_wp2_with fail
  obtain ⟨w0, hw0⟩ : ∃ w0, w0 = (w.alloc (.cells (srv (.map (some (w.heap.size + 1)))) 50)).alloc (.map #[] 0) := ⟨_, rfl⟩
  have H0 : Hid (w0 = (w.alloc (.cells (srv (.map (some (w.heap.size + 1)))) 50)).alloc (.map #[] 0)) := hw0
  clear hw0
  go_loopw [4, 28] (fun want i wr => ∃ (j : Nat) (ks : List (Option (Nat × Bool))), j ≤ len ∧ i = .int .i64 j ∧ ks.length = j ∧ want = .bool (ks.any isNb) ∧ wr.heap[w.heap.size + 1]? = some (.map (ents 0 (ks.map val)).toArray (ks.map val).length) ∧ Below (w.heap.size + 1) w0 wr ∧ w.heap.size + 1 < wr.heap.size ∧ ∀ i k, ks[i]? = some k → okk w.heap.size wr (zs.getD i 0) k) (fun _ i _ => len - (intOf i).toNat)
  case atStart =>
    refine ⟨0, [], Nat.zero_le _, rfl, rfl, rfl, ?_, ?_, ?_, fun i k hi => by simp at hi⟩
    · have := heap_alloc_new (w.alloc (.cells (srv (.map (some (w.heap.size + 1)))) 50)) (.map #[] 0)
      rw [World.size_alloc] at this
      exact this
    · have := H0.out
      subst this
      exact Below.refl _ _
    · simp
  case round =>
    obtain ⟨j, ks, hj, rfl, hks, rfl, hm, hbel, hsz, hok⟩ := hrel
    by_cases hlt : j < len
    · obtain rfl : sp = none := hsp (by omega)
      obtain ⟨z, hzz⟩ : ∃ z, z = zs.getD j 0 := ⟨_, rfl⟩
      have hwf := HW.out z (by rw [hzz, List.getD_eq_getElem?_getD, List.getElem?_eq_getElem (by omega)]; simp)
      have hzb : 0 ≤ z ∧ z ≤ 255 := bounds_u8 hwf
      obtain ⟨hz0, hz1⟩ := hzb
      have hcj : wr.cell? ⟨b, off + j, none⟩ = some (.int .u8 z) := by
        have h1 := HC.out j hlt
        have h2 := lt_of_cell h1
        simp only at h2
        rw [hbel.cell (by simp; omega), w0_old H0.out _ h2, h1, hzz]
      have hc12 : wr.cell? ⟨w.heap.size, 12, none⟩ = some (.map (some (w.heap.size + 1))) := by
        rw [hbel.cell (by simp), w0_srv H0.out]; rfl
      have hc12' : ∀ o, (wr.alloc o).cell? ⟨w.heap.size, 12, none⟩ = some (.map (some (w.heap.size + 1))) := fun o => by
        rw [((Below.refl wr.heap.size wr).alloc (Nat.le_refl _) _).cell (by simp; omega)]; exact hc12
      have HZ : Hid (z = zs.getD j 0) := hzz
      have HM : Hid (wr.heap[w.heap.size + 1]? = some (.map (ents 0 (ks.map val)).toArray (ks.map val).length)) := hm
      have HOK : Hid (∀ i k, ks[i]? = some k → okk w.heap.size wr (zs.getD i 0) k) := hok
      have HKS : Hid (ks.length = j) := hks
      clear hzz hm hok hks hwf
      have h3 : z % 3 = 0 ∨ z % 3 = 1 ∨ z % 3 = 2 := by omega
      rcases h3 with h3 | h3 | h3
      · obtain ⟨w3, hput, hm3, hbel3, hsz3, hok3⟩ := put_step (wr := wr) (wx := wr) (k := none) HM.out hbel hsz HOK.out (fun _ _ _ h => h) (.inl ⟨by rw [HKS.out, ← HZ.out]; exact h3, rfl⟩)
        rw [HKS.out] at hput
        simp only [val] at hput
        have HM3 := hide hm3
        have HOK3 := hide hok3
        clear hm3 hok3
        go_wp2
        go_roundw
        case rel => exact ⟨j + 1, ks ++ [none], by omega, by go_num, by simp [HKS.out], by rw [any_snoc]; simp [isNb], unhide HM3, hbel3, hsz3, unhide HOK3⟩
        case measure => simp [intOf]; omega
      · obtain ⟨w3, hput, hm3, hbel3, hsz3, hok3⟩ := put_conn false (by rw [HKS.out, ← HZ.out]; exact h3) HM.out hbel hsz HOK.out
        rw [HKS.out] at hput
        simp only [connC] at hput
        have HM3 := hide hm3
        have HOK3 := hide hok3
        clear hm3 hok3
        go_wp2
        go_roundw
        case rel => exact ⟨j + 1, ks ++ [some (wr.heap.size, false)], by omega, by go_num, by simp [HKS.out], by rw [any_snoc]; simp [isNb], unhide HM3, hbel3, hsz3, unhide HOK3⟩
        case measure => simp [intOf]; omega
      · obtain ⟨w3, hput, hm3, hbel3, hsz3, hok3⟩ := put_conn true (by rw [HKS.out, ← HZ.out]; exact h3) HM.out hbel hsz HOK.out
        rw [HKS.out] at hput
        simp only [connC] at hput
        have HM3 := hide hm3
        have HOK3 := hide hok3
        clear hm3 hok3
        go_wp2
        go_roundw
        case rel => exact ⟨j + 1, ks ++ [some (wr.heap.size, true)], by omega, by go_num, by simp [HKS.out], by rw [any_snoc]; simp [isNb], unhide HM3, hbel3, hsz3, unhide HOK3⟩
        case measure => simp [intOf]; omega
    · have hjl : ks.length = len := by omega
      have hc8 : wr.cell? ⟨w.heap.size, 8, none⟩ = some (.int .i32 0) := by rw [hbel.cell (by simp), w0_srv H0.out]; rfl
      have hf8 : wr.frozen? ⟨w.heap.size, 8, none⟩ = false := by rw [hbel.frozen (by simp)]; exact w0_frozen H0.out 8
      have hc10 : wr.cell? ⟨w.heap.size, 10, none⟩ = some (.bool false) := by rw [hbel.cell (by simp), w0_srv H0.out]; rfl
      have hc12 : wr.cell? ⟨w.heap.size, 12, none⟩ = some (.map (some (w.heap.size + 1))) := by rw [hbel.cell (by simp), w0_srv H0.out]; rfl
      have hkk : ∀ p nb, some (p, nb) ∈ ks → p ≠ w.heap.size ∧ wr.cell? ⟨p, 3, none⟩ = some (.bool nb) := fun p nb hp => by
        obtain ⟨i, hi, hik⟩ := List.mem_iff_getElem.1 hp
        rcases hok i _ (by rw [List.getElem?_eq_getElem hi, hik]) with ⟨_, h2⟩ | ⟨_, q, h1, h2, h3⟩ | ⟨_, q, h1, h2, h3⟩
        · cases h2
        · cases h2; exact ⟨by omega, h3⟩
        · cases h2; exact ⟨by omega, h3⟩
      have HKK := hide hkk
      have HM := hide hm
      have HOK := hide hok
      have HKS := hide hjl
      clear hkk hm hok hks hjl
      go_wp2_with fail
      refine (links_some w.heap.size (w.heap.size + 1) ks _ hc8 hf8 hc12 (unhide HM) (by omega) (unhide HKK)).mono ?_
      rintro e w1 ⟨rfl, hb1⟩
      have h8 : w1.cell? ⟨w.heap.size, 8, none⟩ = some (.int .i32 0) := by rw [hb1.cell (by simp; omega)]; exact hc8
      have f8 : w1.frozen? ⟨w.heap.size, 8, none⟩ = false := by rw [hb1.frozen (by simp; omega)]; exact hf8
      have h10 : w1.cell? ⟨w.heap.size, 10, none⟩ = some (.bool false) := by rw [hb1.cell (by simp; omega)]; exact hc10
      have h12 : w1.cell? ⟨w.heap.size, 12, none⟩ = some (.map (some (w.heap.size + 1))) := by rw [hb1.cell (by simp; omega)]; exact hc12
      have hm1 : w1.heap[w.heap.size + 1]? = some (.map (ents 0 (ks.map val)).toArray (ks.map val).length) := by rw [hb1.block _ hsz]; exact unhide HM
      have hok1 : ∀ i k, ks[i]? = some k → okk w.heap.size w1 (zs.getD i 0) k := fun i k hi => (unhide HOK i k hi).mono (fun p v hp hv => by rw [hb1.cell (lt_of_cell hv)]; exact hv)
      have hlm : ∀ ty, (Builtin.len_ #[39] ty #[.map (some (w.heap.size + 1))]).run Yba.prog w1 = .ok (.int .i64 (len : Int)) w1 := fun ty => by
        rw [len_map w1 ty _ _ _ hm1]
        simp [ents_length, unhide HKS]
      have hbw : Below w.heap.size w w1 := ((w0_below H0.out).trans (hbel.mono (by omega))).trans (hb1.mono (by omega))
      have hc1 : ∀ i, i < len → w1.cell? ⟨b, off + i, none⟩ = some (.int .u8 (zs.getD i 0)) := fun i hi => by
        rw [hbw.cell (by have := lt_of_cell (HC.out i hi); simpa using this)]; exact HC.out i hi
      have HM1 := hide hm1
      have HOK1 := hide hok1
      have HBW := hide hbw
      have HC1 := hide hc1
      clear hm1 hok1 hbw hc1 hb1 hc8 hf8 hc10 hc12 hbel hsz
      obtain ⟨bb, hbb⟩ : ∃ bb, ks.any isNb = bb := ⟨_, rfl⟩
      rw [hbb]
      clear hbb
      have hbbn : (bb != bb) = false := by simp
      go_wp2
      go_loop [67] (fun i => ∃ j : Nat, j ≤ len ∧ i = .int .i64 j) (fun i => len - (intOf i).toNat)
      case atStart => exact ⟨0, Nat.zero_le _, rfl⟩
      case round =>
        obtain ⟨j', hj', rfl⟩ := hrel
        by_cases hlt' : j' < len
        · obtain rfl : sp = none := hsp (by omega)
          obtain ⟨z, hzz⟩ : ∃ z, z = zs.getD j' 0 := ⟨_, rfl⟩
          have hwf := HW.out z (by rw [hzz, List.getD_eq_getElem?_getD, List.getElem?_eq_getElem (by omega)]; simp)
          obtain ⟨hz0, hz1⟩ := bounds_u8 hwf
          have hcj := unhide HC1 j' hlt'
          rw [← hzz] at hcj
          obtain ⟨k, hk⟩ : ∃ k, ks[j']? = some k := ⟨ks[j']'(by have := unhide HKS; omega), List.getElem?_eq_getElem _⟩
          have hokk := unhide HOK1 j' k hk
          rw [← hzz] at hokk
          have hlk : (Instr.lookup 39 (.map (some (w.heap.size + 1))) (.iface 63 (.agg #[.nilIface, .int .i64 (j' : Int)])) true).run Yba.prog w1 = .ok (.tuple #[val k, .bool true]) w1 :=
            run_look w1 _ (ks.map val) j' (val k) (unhide HM1) (by simp [hk])
          clear hzz hwf hk
          rcases hokk with ⟨h3, rfl⟩ | ⟨h3, p, hp, rfl, hcp⟩ | ⟨h3, p, hp, rfl, hcp⟩
          all_goals
            simp only [val] at hlk
            go_wp2
            go_round
            case rel => exact ⟨j' + 1, by omega, by go_num⟩
            case measure => simp [intOf]; omega
        · go_wp2_with fail
          refine (try_free _ _ h8 f8).mono ?_
          rintro e w2 ⟨rfl, hw2⟩
          have h8' : w2.cell? ⟨w.heap.size, 8, none⟩ = some (.int .i32 1) := by rw [hw2]; exact World.cell?_setCell_same _ _ _ h8
          have f8' : w2.frozen? ⟨w.heap.size, 8, none⟩ = false := by rw [hw2]; simpa using f8
          have HB2 : Hid (Below w.heap.size w w2) := by rw [hw2]; exact HBW.out.setCell (Nat.le_refl _) _
          clear hw2 h8 f8
          go_wp2_with fail
          refine (unlock_held Yba.muLib _ _ h8' f8').mono ?_
          rintro e w3 ⟨rfl, hw3⟩
          have HB3 : Hid (Below w.heap.size w w3) := by rw [hw3]; exact HB2.out.setCell (Nat.le_refl _) _
          clear hw3
          go_wp2
          go_ret
          exact ⟨rfl, HB3.out⟩
end Go.Proofs.Ybulkcdxa
