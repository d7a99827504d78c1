/- Laws on append and on blocks that this law's walks want; nothing of the program but its table of types. -/
import Derived.Test.YbulkcdyqProg
import Derived.WalkKit
import Derived.Deep.AppendLies
import Derived.ArgAppend
import Derived.OneCell
import Derived.Deep.Draws
import Derived.KernelRfl
namespace Go.Proofs.Ybulkcdyq
open Go.RowKit

theorem hide {p : Prop} (h : p) : Hid p := h
theorem unhide {p : Prop} (h : Hid p) : p := h

section
variable {P : Program} (w : World)

/-- append: the old row is written in place, or (nothing old is written) a new block is made. -/
theorem run_append_keep (t ty : TypeId) (base : Nat) (e : TypeId) (i : TypeInfo) (z : Value) (size bytes : Nat) (ht : P.underlying t = some (.slice e)) (hi : P.info? e = some i) (hz : i.zero = some z)
    (hsize : i.size = size) (hby : i.bytes = bytes) (hzs : z.cells.size = size) (hsz : 0 < size)
    (v : Value) (n : Nat) (xs : List Value) (hown : w.ownsRow base e size v n xs)
    (ad : Addr) (m c : Nat) (news : List Value) (hl : news.length = m * size) (hnews : ∀ j u, news[j]? = some u → w.cell? (ad.add j) = some u) (h1 : ∀ u ∈ news, u.oneCell' = true)
    (hm : 0 < m) (h63 : n + m ≤ maxLen) (hbytes : (n + m) * bytes ≤ 140737488355328) (hbase : base ≤ w.heap.size) :
    ∃ g cap w', (Builtin.append_ #[t, t] ty #[v, .slice (some ad) m c]).run P w = .ok (.slice (some ⟨g, 0, none⟩) (n + m) cap) w' ∧
      w'.ownsRow base e size (.slice (some ⟨g, 0, none⟩) (n + m) cap) (n + m) (xs ++ news) ∧ ((v.ownBlock = some g ∧ w.grownBy w' (some g)) ∨ (g = w.heap.size ∧ w.grownBy w' none)) ∧ g < w'.heap.size := by
  obtain ⟨g, cap, w', hr, h2, h3, h4, h5⟩ := run_append_lies (P := P) w t ty base e i z size bytes ht hi hz hsize hby hzs hsz v n xs hown ad m c news hl hnews h1 hm h63 hbytes hbase _ rfl
  refine ⟨g, cap, w', hr, h2, ?_, h5⟩
  rcases hown.2 with ⟨rfl, rfl⟩ | ⟨g0, cap0, cur, rfl, hbg, hg, hnc, hcm, hcs, htake⟩
  · right
    rcases h4 with h4 | h4
    · simp [Value.ownBlock] at h4
    · exact ⟨h4, h3⟩
  · by_cases hroom : n + m ≤ cap0
    · subst hsize
      have hfit : n * i.size + news.length ≤ cur.size := by rw [hl, hcs, ← Nat.add_mul]; exact Nat.mul_le_mul_right _ hroom
      have hr' := run_append_room (P := P) w t ty e i ht hi g0 n cap0 cur hg ad m c news hl hnews h1 hroom hfit
      rw [hr] at hr'
      simp only [Result.ok.injEq, Value.slice.injEq, Option.some.injEq, Addr.mk.injEq, and_true, true_and] at hr'
      obtain ⟨⟨rfl, _⟩, _⟩ := hr'
      exact .inl ⟨rfl, h3⟩
    · right
      have holds : ∀ j u, xs[j]? = some u → w.cell? ((⟨g0, 0, none⟩ : Addr).add j) = some u := hown.cells rfl
      obtain ⟨v', w'', hr', o1, o2⟩ := run_append_arg_grows (P := P) w t ty e i z size bytes ht hi hz hsize hby hzs hsz ⟨g0, 0, none⟩ n cap0 xs hown.1 holds ad m c news hl hnews (by omega) h63 hbytes
      rw [hr] at hr'
      simp only [Result.ok.injEq] at hr'
      obtain ⟨rfl, rfl⟩ := hr'
      refine ⟨?_, o2⟩
      rcases h4 with h4 | h4
      · have a1 := (hown.lt g h4).2
        have a2 := (o1.lt g rfl).1
        omega
      · exact h4

theorem wpList_append_keep {ops : Array Oper} {rest : List Oper} {o : Oper} {a : Act} {Q : Exit → Act → World → Prop} (hgd : o.guard = none) (s x : Operand) (t : TypeId)
    (ho : o.op = .call { callee := .builtin .append, args := #[s, x], argTypes := #[t, t] })
    (base : Nat) (e : TypeId) (i : TypeInfo) (z : Value) (size bytes : Nat) (ht : P.underlying t = some (.slice e)) (hi : P.info? e = some i) (hz : i.zero = some z)
    (hsize : i.size = size) (hby : i.bytes = bytes) (hzs : z.cells.size = size) (hsz : 0 < size)
    (v : Value) (n : Nat) (xs : List Value) (hs : a.eval s = v) (hown : w.ownsRow base e size v n xs)
    (ad : Addr) (m c : Nat) (news : List Value) (hx : a.eval x = .slice (some ad) m c) (hl : news.length = m * size) (hnews : ∀ j u, news[j]? = some u → w.cell? (ad.add j) = some u) (h1 : ∀ u ∈ news, u.oneCell' = true)
    (hm : 0 < m) (h63 : n + m ≤ maxLen) (hbytes : (n + m) * bytes ≤ 140737488355328) (hbase : base ≤ w.heap.size)
    (h : ∀ g cap w', w'.ownsRow base e size (.slice (some ⟨g, 0, none⟩) (n + m) cap) (n + m) (xs ++ news) → ((v.ownBlock = some g ∧ w.grownBy w' (some g)) ∨ (g = w.heap.size ∧ w.grownBy w' none)) → g < w'.heap.size → wpList P ops Q rest (a.put o.dst (.slice (some ⟨g, 0, none⟩) (n + m) cap)) w') : wpList P ops Q (o :: rest) a w := by
  refine wpList_plain hgd fun _ hK => ?_
  obtain ⟨g, cap, w', hr, h2, h3, h4⟩ := run_append_keep (P := P) w t o.type base e i z size bytes ht hi hz hsize hby hzs hsz v n xs hown ad m c news hl hnews h1 hm h63 hbytes hbase
  unfold Oper.wp execOp
  simp only [ho, resolve, invoke, builtin, Sem.run_bind, Sem.run_pure, Result.andThen_ok, List.map_toArray, List.map_cons, List.map_nil, hs, hx, hr]
  exact hK _ _ (h g cap w' h2 h3 h4)
end

theorem Yba.info3 : (Yba.prog.info? 3).map (fun i => (i.zero, i.size, i.bytes)) = some (some (.int .i64 0), 1, 8) := by kernel_rfl
theorem Yba.info31 : (Yba.prog.info? 31).map (fun i => (i.zero, i.size, i.bytes)) = some (some (.agg #[.int .u8 0, .int .u8 0, .int .u8 0, .slice none 0 0]), 4, 32) := by kernel_rfl

theorem lt_of_some {w : World} {r : Nat} {o : Obj} (h : w.heap[r]? = some o) : r < w.heap.size := (Array.getElem?_eq_some_iff.1 h).1
theorem cell_at {w : World} {b i : Nat} {cs : Array Value} {t : TypeId} {f : Nat × Nat} (h : w.heap[b]? = some (.cells cs t f)) : w.cell? ⟨b, i, none⟩ = cs[i]? := by
  unfold World.cell?; rw [h]; rfl
theorem free_at {w : World} {b i : Nat} {cs : Array Value} {t : TypeId} (h : w.heap[b]? = some (.cells cs t (0, 0))) : w.frozen? ⟨b, i, none⟩ = false := by
  unfold World.frozen?; rw [h]; simp

/-- Every old block but those of which 'f' says true is as it was. -/
structure Mv (f : Nat → Prop) (w w' : World) : Prop where
  os : w'.os = w.os
  tape : w'.tape = w.tape
  output : w'.output = w.output
  size : w.heap.size ≤ w'.heap.size
  block : ∀ k, k < w.heap.size → ¬ f k → w'.heap[k]? = w.heap[k]?

theorem Mv.refl (f : Nat → Prop) (w : World) : Mv f w w := ⟨rfl, rfl, rfl, Nat.le_refl _, fun _ _ _ => rfl⟩
theorem Mv.trans {f g : Nat → Prop} {a b c : World} (h : Mv f a b) (k : Mv g b c) (hg : ∀ x, x < a.heap.size → g x → f x) : Mv f a c :=
  ⟨k.os.trans h.os, k.tape.trans h.tape, k.output.trans h.output, Nat.le_trans h.size k.size, fun x hx hf => (k.block x (Nat.lt_of_lt_of_le hx h.size) (fun e => hf (hg x hx e))).trans (h.block x hx hf)⟩
theorem Mv.mono {f g : Nat → Prop} {a b : World} (h : Mv f a b) (hg : ∀ x, x < a.heap.size → f x → g x) : Mv g a b :=
  ⟨h.os, h.tape, h.output, h.size, fun x hx hn => h.block x hx (fun e => hn (hg x hx e))⟩
theorem Mv.drew (w : World) (f : Nat → Prop) : Mv f w w.drew := ⟨rfl, rfl, rfl, Nat.le_refl _, fun _ _ _ => rfl⟩
theorem Mv.of_drewN (w : World) (n : Nat) : Mv (fun _ => False) w (w.drewN n) := ⟨rfl, rfl, rfl, Nat.le_refl _, fun _ _ _ => rfl⟩
theorem Mv.alloc (w : World) (f : Nat → Prop) (o : Obj) : Mv f w (w.alloc o) := ⟨rfl, rfl, rfl, by simp, fun k hk _ => Below.heap_alloc w o k hk⟩
theorem Mv.setCell (w : World) (a : Addr) (u : Value) : Mv (fun k => k = a.block) w (w.setCell a u) := ⟨rfl, rfl, rfl, by simp, fun k _ hn => Below.heap_setCell w a u k hn⟩
theorem Mv.grown {w w' : World} {row : Option Nat} (h : w.grownBy w' row) : Mv (fun k => some k = row) w w' := ⟨h.os, h.tape, h.output, h.size, fun k hk hn => h.block k hk hn⟩
theorem Mv.below {w w' : World} {f : Nat → Prop} {B : Nat} (h : Mv f w w') (hB : B ≤ w.heap.size) (hf : ∀ k, k < B → ¬ f k) : Below B w w' := ⟨h.os, h.tape, h.output, h.size, fun k hk => h.block k (by omega) (hf k hk)⟩
theorem Mv.of_below {w w' : World} {B : Nat} (h : Below B w w') : Mv (fun k => B ≤ k) w w' := ⟨h.os, h.tape, h.output, h.size, fun k _ hn => h.block k (by omega)⟩
theorem Mv.get {f : Nat → Prop} {w w' : World} {b : Nat} {o : Obj} (h : Mv f w w') (hb : w.heap[b]? = some o) (hf : ¬ f b) : w'.heap[b]? = some o := (h.block b (lt_of_some hb) hf).trans hb

/-- What is owned stays owned. -/
theorem owns_mv {f : Nat → Prop} {w w' : World} {base e size : Nat} {v : Value} {n : Nat} {xs : List Value} (h : w.ownsRow base e size v n xs) (hm : Mv f w w') (hf : ∀ g, v.ownBlock = some g → ¬ f g) : w'.ownsRow base e size v n xs := by
  refine ⟨h.1, ?_⟩
  rcases h.2 with hn | ⟨g, cap, cur, rfl, hb, hgg, rest⟩
  · exact .inl hn
  · exact .inr ⟨g, cap, cur, rfl, hb, hm.get hgg (hf g rfl), rest⟩
end Go.Proofs.Ybulkcdyq
