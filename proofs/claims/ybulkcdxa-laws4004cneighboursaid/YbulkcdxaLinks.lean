/- The contracts of the lock's TryLock, and of (*Server).linksNeighbour. -/
import Derived.Test.YbulkcdxaMap
import Derived.Test.YbulkcdxaLocks
import Derived.Conc.MuLone
import Derived.Defers
import Derived.LoopTactic
import Derived.LoopN
import Derived.WalkSpells
import Derived.Maps.RangeRun
namespace Go.Proofs.Ybulkcdxa
open Go.RowKit
open Go.MuLone
open Go.ChangeMaps (setBlock)

theorem room35 : (Yba.prog.info? 35).map (fun i => decide (i.size = 0)) = some false := by kernel_rfl

/-- The lock's pointer handed to the race detector's mark: the same pointer. -/
theorem conv_up (a : Addr) (v : Value) (w : World) (hc : w.cell? a = some v) : (convert 68 72 (.pointer (some a))).run Yba.prog w = .ok (.pointer (some a)) w := by
  have h1 := Yba.underlying68
  have h2 := Yba.underlying72
  have h3 := room35
  revert h1 h2 h3
  generalize Yba.prog = P
  intro h1 h2 h3
  obtain ⟨e, n, hsh, hlt, hsp⟩ := World.shape?_of_cell? hc
  obtain ⟨i, hi, hz0⟩ := Option.map_eq_some_iff.1 h3
  have hz : i.size ≠ 0 := by simpa using hz0
  have hge : ¬ (n ≤ a.off) := by omega
  simp only [convert, run_underlying h1, run_underlying h2, Sem.run_bind, Result.andThen_ok]
  change Sem.run P (underlying 68 >>= _) w = _
  simp [Conv.seenAt, viewAt, cellsIn, sizeOf, typeInfo, run_underlying h1, run_underlying h2, hi, hz, hsh, hge, Result.andThen]

set_option maxRecDepth 100000 in
set_option maxHeartbeats 800000 in
theorem itry (a : Addr) (w : World) (hc : w.cell? a = some (.int .i32 0)) (hz : w.frozen? a = false) :
    Calls Yba.prog 8 #[.pointer (some a)] w fun e w' => e = .returned (.bool true) ∧ w' = w.setCell a (.int .i32 1) := by
  have hd : ∀ w, (callFunc 11 #[]).run Yba.prog w = .ok (.value (.tuple #[])) w := disable Yba.muLib
  have he : ∀ w, (callFunc 12 #[]).run Yba.prog w = .ok (.value (.tuple #[])) w := enable Yba.muLib
  have ha : ∀ w, (callFunc 14 #[.pointer (some a)]).run Yba.prog w = .ok (.value (.tuple #[])) w := acquire Yba.muLib a
  have hcas := run_call_cas_hit (P := Yba.prog) Yba.func13 (by kernel_rfl) (by kernel_rfl) (by kernel_rfl) .i32 (by kernel_rfl) (y := 1) hc hz
  have hc' : (w.setCell a (.int .i32 1)).cell? a = some (.int .i32 1) := by simp [go_sem, hc]
  have hcv := conv_up a _ _ hc'
  go_enter Yba.func8, Yba.ntmps8
  go_wp2
  go_ret
  exact ⟨rfl, rfl⟩

set_option maxRecDepth 100000 in
set_option maxHeartbeats 800000 in
theorem try_free (a : Addr) (w : World) (hc : w.cell? a = some (.int .i32 0)) (hz : w.frozen? a = false) :
    Calls Yba.prog 5 #[.pointer (some a)] w fun e w' => e = .returned (.bool true) ∧ w' = w.setCell a (.int .i32 1) := by
  go_enter Yba.func5, Yba.ntmps5
  go_wp2_with fail
  refine (itry a _ hc hz).mono ?_
  rintro e w' ⟨rfl, rfl⟩
  go_wp2
  go_ret
  exact ⟨rfl, rfl⟩

/-- A cell that is written twice, the second time with what it held: the blocks are as they were. -/
theorem back_block {w w1 w2 : World} {a : Addr} {u v : Value} (h : w.cell? a = some v) (h1 : ∀ k, k < w.heap.size → w1.heap[k]? = (w.setCell a u).heap[k]?) (h2 : w2 = w1.setCell a v) (k : Nat) (hk : k < w.heap.size) : w2.heap[k]? = w.heap[k]? := by
  subst h2
  have h1k := h1 k hk
  by_cases e : k = a.block
  · subst e
    simp only [World.setCell, Array.getElem?_modify, if_true] at h1k ⊢
    rw [h1k]
    unfold World.cell? at h
    cases ho : w.heap[a.block]? with
    | none => simp [ho] at h
    | some o =>
      rw [ho] at h
      cases o <;> simp at h
      rename_i c t m
      obtain ⟨hs, hv⟩ := h
      have hc : (c.setIfInBounds a.off u).setIfInBounds a.off v = c := by
        apply Array.ext_getElem?
        intro i
        simp only [Array.getElem?_setIfInBounds]
        by_cases hi : a.off = i
        · subst hi
          obtain ⟨hlt, hv'⟩ := Array.getElem?_eq_some_iff.1 hv
          simp [hlt, hv']
        · simp [hi]
      simp only [Option.map_some, hs, Option.isSome_none, Bool.false_eq_true, if_false, hc]
  · rw [Below.heap_setCell _ _ _ _ e, h1k, Below.heap_setCell _ _ _ _ e]

theorem setBlock_below (w : World) (r : Nat) (o : Obj) : Below r w (setBlock w r o) :=
  ⟨rfl, rfl, rfl, by simp [setBlock], fun k hk => by simp only [setBlock]; rw [Array.getElem?_setIfInBounds]; rw [if_neg (by omega)]⟩
theorem setBlock_at (w : World) (r : Nat) (o : Obj) (h : r < w.heap.size) : (setBlock w r o).heap[r]? = some o := by
  simp [setBlock, h]
theorem lt_of_some {w : World} {r : Nat} {o : Obj} (h : w.heap[r]? = some o) : r < w.heap.size := (Array.getElem?_eq_some_iff.1 h).1
theorem lt_of_cell {w : World} {a : Addr} {v : Value} (h : w.cell? a = some v) : a.block < w.heap.size := by
  unfold World.cell? at h
  cases ho : w.heap[a.block]? with
  | none => simp [ho] at h
  | some o => exact lt_of_some ho

/-- The lock taken and given back, and between the two nothing old turned: nothing old has turned. -/
theorem fin_below {w w1 wx : World} {a : Addr} {u v : Value} (h : w.cell? a = some v) (h1 : w1 = w.setCell a u) (hb : Below w1.heap.size w1 wx) : Below w.heap.size w (wx.setCell a v) := by
  have hsz : w1.heap.size = w.heap.size := by rw [h1]; simp
  refine ⟨hb.os.trans (by rw [h1]; rfl), hb.tape.trans (by rw [h1]; rfl), hb.output.trans (by rw [h1]; rfl), by have := hb.size; simp; omega, fun k hk => ?_⟩
  exact back_block h (fun k hk => by rw [hb.block k (by omega), h1]) rfl k hk
theorem fin_cell {w w1 wx : World} {a : Addr} {u v : Value} (h : w.cell? a = some v) (h1 : w1 = w.setCell a u) (hb : Below w1.heap.size w1 wx) : wx.cell? a = some u := by
  have hl := lt_of_cell h
  rw [hb.cell (by rw [h1]; simpa using hl), h1, World.cell?_setCell_same _ _ _ h]
theorem fin_frozen {w w1 wx : World} {a : Addr} {u v : Value} (h : w.cell? a = some v) (hf : w.frozen? a = false) (h1 : w1 = w.setCell a u) (hb : Below w1.heap.size w1 wx) : wx.frozen? a = false := by
  have hl := lt_of_cell h
  rw [hb.frozen (by rw [h1]; simpa using hl), h1]; simpa using hf

/-- A held link as the map holds it: nil, or the block of its Conn with the flag 'neighbour'. -/
def val : Option (Nat × Bool) → Value
  | none => .pointer none
  | some (p, _) => .pointer (some ⟨p, 0, none⟩)
def isNb : Option (Nat × Bool) → Bool
  | some (_, true) => true
  | _ => false

set_option maxRecDepth 100000 in
set_option maxHeartbeats 1600000 in
theorem links_some (b bm : Nat) (ks : List (Option (Nat × Bool))) (w : World) (h8 : w.cell? ⟨b, 8, none⟩ = some (.int .i32 0)) (f8 : w.frozen? ⟨b, 8, none⟩ = false)
    (h12 : w.cell? ⟨b, 12, none⟩ = some (.map (some bm))) (hm : w.heap[bm]? = some (.map (ents 0 (ks.map val)).toArray (ks.map val).length)) (hbm : bm ≠ b)
    (hk : ∀ p nb, some (p, nb) ∈ ks → p ≠ b ∧ w.cell? ⟨p, 3, none⟩ = some (.bool nb)) :
    Calls Yba.prog 4 #[.pointer (some ⟨b, 0, none⟩)] w fun e w' => e = .returned (.bool (ks.any isNb)) ∧ Below w.heap.size w w' := by
  -- the entries, by what the loop needs of them
  obtain ⟨es, hes⟩ : ∃ es, es = (ents 0 (ks.map val)).toArray := ⟨_, rfl⟩
  obtain ⟨n, hn⟩ : ∃ n, n = (ks.map val).length := ⟨_, rfl⟩
  have hold : ∀ x ∈ es.toList, x.born < n := fun x hx => by
    subst hes hn
    have := ents_born_lt _ _ x (by simpa using hx)
    omega
  have hnd : (es.toList.map (·.born)).Nodup := by subst hes; simpa using ents_nodup (ks.map val) 0
  have hev : ∀ x ∈ es.toList, ∃ k, ks[x.born]? = some k ∧ x.val = val k := fun x hx => by
    subst hes
    have := ents_val _ _ x (by simpa using hx)
    simp only [Nat.sub_zero, List.getElem?_map, Option.map_eq_some_iff] at this
    obtain ⟨k, h1, h2⟩ := this
    exact ⟨k, h1, h2.symm⟩
  have hall : ∀ (i : Nat) (k : Option (Nat × Bool)), ks[i]? = some k → ∃ x ∈ es.toList, x.born = i := fun i k hi => by
    subst hes
    obtain ⟨x, hx, hb, _⟩ := ents_mem (ks.map val) 0 i (val k) (by simp [hi])
    exact ⟨x, by simpa using hx, by simpa using hb⟩
  rw [← hes, ← hn] at hm
  clear hes hn
  go_enter_defers Yba.func4, Yba.ntmps4
  go_wp2_with fail
  refine (lock_free Yba.muLib ⟨b, 8, none⟩ _ h8 f8).mono ?_
  rintro e w1 ⟨rfl, hw1⟩
  have hm1 : w1.heap[bm]? = some (.map es n) := by rw [hw1, Below.heap_setCell _ _ _ _ hbm]; exact hm
  have h12' : w1.cell? ⟨b, 12, none⟩ = some (.map (some bm)) := by rw [hw1, World.cell?_setCell_other _ _ _ _ (by simp)]; exact h12
  have hk1 : ∀ p nb, some (p, nb) ∈ ks → w1.cell? ⟨p, 3, none⟩ = some (.bool nb) := fun p nb h => by
    obtain ⟨hpb, hc⟩ := hk p nb h
    rw [hw1, World.cell?_setCell_other _ _ _ _ (by simp)]; exact hc
  have HW : Hid (w1 = w.setCell ⟨b, 8, none⟩ (.int .i32 1)) := hw1
  have HK : Hid (∀ p nb, some (p, nb) ∈ ks → w1.cell? ⟨p, 3, none⟩ = some (.bool nb)) := hk1
  have HE : Hid (∀ x ∈ es.toList, ∃ k, ks[x.born]? = some k ∧ x.val = val k) := hev
  have HA : Hid (∀ (i : Nat) (k : Option (Nat × Bool)), ks[i]? = some k → ∃ x ∈ es.toList, x.born = i) := hall
  have H8 : Hid (w.cell? ⟨b, 8, none⟩ = some (.int .i32 0)) := h8
  have F8 : Hid (w.frozen? ⟨b, 8, none⟩ = false) := f8
  have HO : Hid (∀ x ∈ es.toList, x.born < n) := hold
  have HN : Hid ((es.toList.map (·.born)).Nodup) := hnd
  clear hw1 hk1 hev hall h8 f8 h12 hm hk hold hnd
  have hrg := run_range_map (P := Yba.prog) w1 39 53 51 bm es n Yba.underlying39 hm1
  obtain ⟨r, hr⟩ : ∃ r, r = w1.heap.size := ⟨_, rfl⟩
  rw [← hr] at hrg
  have HR : Hid (r = w1.heap.size) := hr
  clear hr
  go_wp2
  go_loopw [] (fun w' => ∃ seen : Array Nat, w'.heap[r]? = some (.mapIter (some bm) n seen n) ∧ Below r w1 w' ∧ ∀ x ∈ es.toList, seen.contains x.born = true → ∀ k, ks[x.born]? = some k → isNb k = false) (fun w' => (leftOf es (w'.iterSeen r)).size)
  case atStart =>
    have hr := HR.out
    subst hr
    exact ⟨#[], heap_alloc_new _ _, (Below.refl _ _).alloc (Nat.le_refl _) _, fun x _ h => by simp at h⟩
  case round =>
    obtain ⟨seen, hit, hbel, hno⟩ := hrel
    have hbmr : bm < r := by rw [HR.out]; exact lt_of_some hm1
    have hmr : wr.heap[bm]? = some (.map es n) := by rw [hbel.block bm hbmr]; exact hm1
    rcases run_next_at (P := Yba.prog) wr 0 r bm n n seen es n hit hmr HO.out (Nat.le_refl _) with ⟨h0, hrun⟩ | ⟨e, he, w2, hw2, hrun⟩
    · have hnx : ∀ ty, (Instr.next (.pointer (some ⟨r, 0, none⟩)) false ty).run Yba.prog wr = .ok (.tuple #[.bool false]) wr := fun _ => hrun
      clear hrun hit hmr
      have hbel' : Below w1.heap.size w1 wr := by rw [← HR.out]; exact hbel
      have hc8 := fin_cell H8.out HW.out hbel'
      have hf8 := fin_frozen H8.out F8.out HW.out hbel'
      have hfin := fin_below H8.out HW.out hbel'
      have hany : ks.any isNb = false := by
        rw [List.any_eq_false]
        intro k hk
        obtain ⟨i, hi, hik⟩ := List.mem_iff_getElem.1 hk
        have hik' : ks[i]? = some k := by rw [List.getElem?_eq_getElem hi, hik]
        obtain ⟨x, hx, hxb⟩ := HA.out i k hik'
        have := hno x hx (all_seen es seen h0 x hx) k (by rw [hxb]; exact hik')
        simp [this]
      have HF : Hid (Below w.heap.size w (wr.setCell ⟨b, 8, none⟩ (.int .i32 0))) := hfin
      have HY : Hid (ks.any isNb = false) := hany
      clear hfin hany
      go_wp2
      refine leaves_cons (f := 6) (args := #[.pointer (some ⟨b, 8, none⟩)]) (by simp) (by simp [go_sem]) ?_
      refine (unlock_deferred Yba.muLib ⟨b, 8, none⟩ .returning _ hc8 hf8).mono ?_
      rintro e u' w'' ⟨rfl, rfl, rfl⟩
      exact ⟨_, results_tmp rfl _ _ _, by rw [HY.out]; rfl, HF.out⟩
    · obtain ⟨w3, hw3⟩ : ∃ w3, w3 = setBlock w2 r (.mapIter (some bm) n (seen.push e.born) n) := ⟨_, rfl⟩
      rw [← hw3] at hrun
      have hr2 : r < w2.heap.size := by rcases hw2 with rfl | rfl <;> exact lt_of_some hit
      have hit3 : w3.heap[r]? = some (.mapIter (some bm) n (seen.push e.born) n) := by rw [hw3]; exact setBlock_at _ _ _ hr2
      have hbel3 : Below r w1 w3 := by
        rw [hw3]
        refine Below.trans ?_ (setBlock_below _ _ _)
        rcases hw2 with rfl | rfl
        · exact hbel
        · exact hbel.drew
      have hsz3 : r < w3.heap.size := lt_of_some hit3
      clear hw3 hw2 hr2
      have hmr3 : w3.heap[bm]? = some (.map es n) := by rw [hbel3.block bm hbmr]; exact hm1
      obtain ⟨k, hke, hval⟩ := HE.out e (mem_left he).1
      rw [hval] at hrun
      have hnx : ∀ ty, (Instr.next (.pointer (some ⟨r, 0, none⟩)) false ty).run Yba.prog wr = .ok (.tuple #[.bool true, e.key, val k]) w3 := fun _ => hrun
      have hen := run_entry_at (P := Yba.prog) w3 r bm n seen es n e hit3 hmr3 (mem_left he).1 HN.out
      rw [hval] at hen
      have hbel' : Below w1.heap.size w1 w3 := by rw [← HR.out]; exact hbel3
      have hc8 := fin_cell H8.out HW.out hbel'
      have hf8 := fin_frozen H8.out F8.out HW.out hbel'
      have hfin := fin_below H8.out HW.out hbel'
      have HF : Hid (Below w.heap.size w (w3.setCell ⟨b, 8, none⟩ (.int .i32 0))) := hfin
      have HV : Hid (e.val = val k) := hval
      have HNO : Hid (∀ x ∈ es.toList, seen.contains x.born = true → ∀ k, ks[x.born]? = some k → isNb k = false) := hno
      have HKE : Hid (ks[e.born]? = some k) := hke
      have HIT : Hid (wr.heap[r]? = some (.mapIter (some bm) n seen n)) := hit
      have HIT3 : Hid (w3.heap[r]? = some (.mapIter (some bm) n (seen.push e.born) n)) := hit3
      clear hfin hrun hval hno hke hit hit3 hmr hmr3
      have hkm : k ∈ ks := List.mem_of_getElem? HKE.out
      have hmeas : (leftOf es (w3.iterSeen r)).size < (leftOf es (wr.iterSeen r)).size := by
        have a1 : w3.iterSeen r = seen.push e.born := by unfold World.iterSeen; rw [HIT3.out]
        have a2 : wr.iterSeen r = seen := by unfold World.iterSeen; rw [HIT.out]
        rw [a1, a2]
        exact left_shrinks es seen e he
      have hnext : isNb k = false → ∀ x ∈ es.toList, (seen.push e.born).contains x.born = true → ∀ k', ks[x.born]? = some k' → isNb k' = false := fun hk0 x hx hc k' hk' => by
        rw [contains_push] at hc
        rcases Bool.or_eq_true _ _ ▸ hc with h1 | h1
        · exact HNO.out x hx h1 k' hk'
        · rw [beq_iff_eq.1 h1, HKE.out] at hk'
          cases hk'
          exact hk0
      have HM : Hid ((leftOf es (w3.iterSeen r)).size < (leftOf es (wr.iterSeen r)).size) := hmeas
      have HX : Hid (isNb k = false → ∀ x ∈ es.toList, (seen.push e.born).contains x.born = true → ∀ k', ks[x.born]? = some k' → isNb k' = false) := hnext
      clear hmeas hnext
      match k, hkm with
      | none, hkm =>
        simp only [val] at hnx hen
        go_wp2
        go_roundw
        case rel => exact ⟨seen.push e.born, HIT3.out, hbel3, HX.out rfl⟩
        case measure => exact HM.out
      | some (p, false), hkm =>
        have hcp : w3.cell? ⟨p, 3, none⟩ = some (.bool false) := by
          have h1 := HK.out p false hkm
          rw [hbel'.cell (lt_of_cell h1)]; exact h1
        simp only [val] at hnx hen
        go_wp2
        go_roundw
        case rel => exact ⟨seen.push e.born, HIT3.out, hbel3, HX.out rfl⟩
        case measure => exact HM.out
      | some (p, true), hkm =>
        have hcp : w3.cell? ⟨p, 3, none⟩ = some (.bool true) := by
          have h1 := HK.out p true hkm
          rw [hbel'.cell (lt_of_cell h1)]; exact h1
        have HY : Hid (ks.any isNb = true) := List.any_eq_true.2 ⟨_, hkm, rfl⟩
        simp only [val] at hnx hen
        go_wp2
        refine leaves_cons (f := 6) (args := #[.pointer (some ⟨b, 8, none⟩)]) (by simp) (by simp [go_sem]) ?_
        refine (unlock_deferred Yba.muLib ⟨b, 8, none⟩ .returning _ hc8 hf8).mono ?_
        rintro e u' w'' ⟨rfl, rfl, rfl⟩
        exact ⟨_, results_tmp rfl _ _ _, by rw [HY.out]; rfl, HF.out⟩

set_option maxRecDepth 100000 in
set_option maxHeartbeats 1600000 in
theorem links_nil (b : Nat) (w : World) (h8 : w.cell? ⟨b, 8, none⟩ = some (.int .i32 0)) (f8 : w.frozen? ⟨b, 8, none⟩ = false) (h12 : w.cell? ⟨b, 12, none⟩ = some (.map none)) :
    Calls Yba.prog 4 #[.pointer (some ⟨b, 0, none⟩)] w fun e w' => e = .returned (.bool false) ∧ Below w.heap.size w w' := by
  go_enter_defers Yba.func4, Yba.ntmps4
  go_wp2_with fail
  refine (lock_free Yba.muLib ⟨b, 8, none⟩ _ h8 f8).mono ?_
  rintro e w1 ⟨rfl, hw1⟩
  have h12' : w1.cell? ⟨b, 12, none⟩ = some (.map none) := by rw [hw1, World.cell?_setCell_other _ _ _ _ (by simp)]; exact h12
  have hbel : Below w1.heap.size w1 (w1.alloc (.mapIter none 0 #[] 0)) := (Below.refl _ _).alloc (Nat.le_refl _) _
  have hc8 := fin_cell h8 hw1 hbel
  have hf8 := fin_frozen h8 f8 hw1 hbel
  have hfin := fin_below h8 hw1 hbel
  obtain ⟨w2, hw2⟩ : ∃ w2, w2 = w1.alloc (.mapIter none 0 #[] 0) := ⟨_, rfl⟩
  have hrg := run_range_nilMap (P := Yba.prog) w1 39 53 51 Yba.underlying39
  have hnx : ∀ ty, (Instr.next (.pointer (some ⟨w1.heap.size, 0, none⟩)) false ty).run Yba.prog (w1.alloc (.mapIter none 0 #[] 0)) = _ := fun ty => run_next_nilMap w1 ty 0 0 #[]
  rw [← hw2] at hc8 hf8 hfin hrg hnx
  have HF : Hid (Below w.heap.size w (w2.setCell ⟨b, 8, none⟩ (.int .i32 0))) := hfin
  clear hfin hbel hw1 h8 f8 h12 hw2
  go_wp2
  refine wp_loop_rounds 1 ?_
  rw [rounds_succ]
  go_wp2
  refine leaves_cons (f := 6) (args := #[.pointer (some ⟨b, 8, none⟩)]) (by simp) (by simp [go_sem]) ?_
  refine (unlock_deferred Yba.muLib ⟨b, 8, none⟩ .returning _ hc8 hf8).mono ?_
  rintro e u' w'' ⟨rfl, rfl, rfl⟩
  exact ⟨_, results_tmp rfl _ _ _, rfl, HF.out⟩
end Go.Proofs.Ybulkcdxa
