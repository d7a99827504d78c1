/- The map of this law: keys '.iface 63 (.agg #[nil, int i])', entered in the order 0, 1, 2 ..; what the model's map operations do at it. -/
import Derived.Test.YbulkcdxaProg
import Derived.WalkKit
import Derived.Laws.StructEq
import Derived.Laws.IdiomRangeMap
import Derived.Carry
import Derived.ChangeMaps5
import Derived.KernelRfl
namespace Go.Proofs.Ybulkcdxa
open Go.RowKit
open Go.ChangeMaps (setBlock)

def key (a : Int) : Value := .iface 63 (.agg #[.nilIface, .int .i64 a])

/-- The entries: the values 'vs', keyed and stamped from 's' on. -/
def ents (s : Nat) : List Value → List MapEntry
  | [] => []
  | v :: vs => { key := key s, val := v, born := s } :: ents (s + 1) vs

theorem ents_length : ∀ (vs : List Value) (s : Nat), (ents s vs).length = vs.length
  | [], _ => rfl
  | _ :: vs, s => by simp [ents, ents_length vs (s + 1)]

theorem ents_snoc : ∀ (vs : List Value) (v : Value) (s : Nat), ents s (vs ++ [v]) = ents s vs ++ [{ key := key (s + vs.length : Nat), val := v, born := s + vs.length }]
  | [], v, s => by simp [ents]
  | x :: vs, v, s => by
    simp only [List.cons_append, ents, ents_snoc vs v (s + 1), List.length_cons]
    rw [show s + 1 + vs.length = s + (vs.length + 1) from by omega]

theorem ents_born_lt : ∀ (vs : List Value) (s : Nat) (x : MapEntry), x ∈ ents s vs → s ≤ x.born ∧ x.born < s + vs.length
  | [], _, _, h => by simp [ents] at h
  | v :: vs, s, x, h => by
    simp only [ents, List.mem_cons] at h
    rcases h with rfl | h
    · simp
    · have := ents_born_lt vs (s + 1) x h
      simp only [List.length_cons]
      omega

theorem ents_nodup : ∀ (vs : List Value) (s : Nat), ((ents s vs).map (·.born)).Nodup
  | [], _ => by simp [ents]
  | v :: vs, s => by
    simp only [ents, List.map_cons, List.nodup_cons]
    refine ⟨fun h => ?_, ents_nodup vs (s + 1)⟩
    obtain ⟨x, hx, hb⟩ := List.mem_map.1 h
    have := ents_born_lt vs (s + 1) x hx
    omega

theorem ents_val : ∀ (vs : List Value) (s : Nat) (x : MapEntry), x ∈ ents s vs → vs[x.born - s]? = some x.val
  | [], _, _, h => by simp [ents] at h
  | v :: vs, s, x, h => by
    simp only [ents, List.mem_cons] at h
    rcases h with rfl | h
    · simp
    · have hb := ents_born_lt vs (s + 1) x h
      have := ents_val vs (s + 1) x h
      rw [show x.born - s = (x.born - (s + 1)) + 1 from by omega]
      simpa using this

theorem ents_mem : ∀ (vs : List Value) (s i : Nat) (v : Value), vs[i]? = some v → ∃ x ∈ ents s vs, x.born = s + i ∧ x.val = v
  | [], _, _, _, h => by simp at h
  | u :: vs, s, 0, v, h => by
    simp at h; subst h
    exact ⟨_, List.mem_cons_self, by simp, rfl⟩
  | u :: vs, s, i + 1, v, h => by
    obtain ⟨x, hx, hb, hv⟩ := ents_mem vs (s + 1) i v (by simpa using h)
    exact ⟨x, List.mem_cons_of_mem _ hx, by omega, hv⟩

theorem stoodIn63 : Yba.prog.stoodInHeld 63 = false := by kernel_rfl
theorem fields63 : Yba.prog.underlying 63 = some (.struct (Yba.prog.fieldsOf 63)) := by kernel_rfl
theorem comp63 : (Yba.prog.info? 63).map (·.comparable) = some true := by kernel_rfl

theorem eq_iface (d : Nat) (a b : Int) (w : World) : (Op.equalIn (d + 1) 53 (key a) (key b)).run Yba.prog w = (Op.equalIn d 63 (.agg #[.nilIface, .int .i64 a]) (.agg #[.nilIface, .int .i64 b])).run Yba.prog w := by
  obtain ⟨inf, hi, hc⟩ := Option.map_eq_some_iff.1 comp63
  simp [key, Op.equalIn, run_underlying Yba.underlying53, typeInfo, hi, hc]

theorem eq_key (a b : Int) (w : World) : (Op.equal 53 (key a) (key b)).run Yba.prog w = .ok (a == b) w := by
  have e : Op.equal 53 (key a) (key b) = Op.equalIn (9999 + 1) 53 (key a) (key b) := rfl
  rw [e, eq_iface, run_equalIn_struct w 9998 63 _ _ fields63 stoodIn63]
  have hf : (Yba.prog.fieldsOf 63).toList.map (fun f => (decide (f.name ≠ "_"), f.type, f.offset)) = [(true, 53, 0), (true, 3, 1)] := by kernel_rfl
  generalize (Yba.prog.fieldsOf 63).toList = fs at hf
  have hn : (Op.equalIn 9998 53 .nilIface .nilIface).run Yba.prog w = .ok true w := by kernel_rfl
  have hi3 : (Op.equalIn 9998 3 (.int .i64 a) (.int .i64 b)).run Yba.prog w = .ok (a == b) w := run_equalIn_int w 9997 3 .i64 .i64 a b Yba.underlying3
  have p0 : (part 53 #[.nilIface, .int .i64 a] 0).run Yba.prog w = .ok .nilIface w := by kernel_rfl
  have p0' : (part 53 #[.nilIface, .int .i64 b] 0).run Yba.prog w = .ok .nilIface w := by kernel_rfl
  have p1 : (part 3 #[.nilIface, .int .i64 a] 1).run Yba.prog w = .ok (.int .i64 a) w := by kernel_rfl
  have p1' : (part 3 #[.nilIface, .int .i64 b] 1).run Yba.prog w = .ok (.int .i64 b) w := by kernel_rfl
  obtain ⟨f, g, rfl⟩ : ∃ f g, fs = [f, g] := by
    have hl : fs.length = 2 := by simpa using congrArg List.length hf
    match fs, hl with
    | [f, g], _ => exact ⟨f, g, rfl⟩
  simp only [List.map_cons, List.map_nil, List.cons.injEq, Prod.mk.injEq, decide_eq_true_eq, and_true] at hf
  obtain ⟨⟨n0, t0, o0⟩, n1, t1, o1⟩ := hf
  simp only [Op.eqFields]
  rw [if_pos n0, if_pos n1, t0, t1, o0, o1]
  simp only [Sem.run_bind, Sem.run_ite, p0, p0', p1, p1', hn, hi3, Result.andThen_ok, Sem.run_pure]
  cases h : (a == b) <;> simp

theorem check_key (em : Bool) (a : Int) (w : World) : (Instr.checkKey em 10000 53 (key a)).run Yba.prog w = .ok () w := by kernel_rfl

theorem asking_miss (a : Nat) (w : World) : ∀ (vs : List Value) (s i : Nat), s + vs.length ≤ a → (Instr.findAsking 53 (key a) (ents s vs) i).run Yba.prog w = .ok none w
  | [], _, _, _ => by simp [ents, Instr.findAsking]
  | v :: vs, s, i, h => by
    simp only [List.length_cons] at h
    have hne : ((a : Int) == (s : Int)) = false := by simp; omega
    simp only [ents, Instr.findAsking, Sem.run_bind, eq_key, Result.andThen_ok, hne, Bool.false_eq_true, if_false]
    exact asking_miss a w vs (s + 1) (i + 1) (by omega)

theorem asking_hit (w : World) : ∀ (vs : List Value) (s i d : Nat) (v : Value), vs[d]? = some v → (Instr.findAsking 53 (key ((s + d : Nat) : Int)) (ents s vs) i).run Yba.prog w = .ok (some (i + d, v)) w
  | [], _, _, _, _, h => by simp at h
  | u :: vs, s, i, 0, v, h => by
    simp at h; subst h
    have he : (((s + 0 : Nat) : Int) == (s : Int)) = true := by simp
    simp only [ents, Instr.findAsking, Sem.run_bind, eq_key, Result.andThen_ok, he, if_true]
    simp
  | u :: vs, s, i, d + 1, v, h => by
    have hne : (((s + (d + 1) : Nat) : Int) == (s : Int)) = false := by simp; omega
    simp only [ents, Instr.findAsking, Sem.run_bind, eq_key, Result.andThen_ok, hne, Bool.false_eq_true, if_false]
    have := asking_hit w vs (s + 1) (i + 1) d v (by simpa using h)
    rw [show s + 1 + d = s + (d + 1) from by omega, show i + 1 + d = i + (d + 1) from by omega] at this
    exact this

theorem findNow_none (ms : Array (String × TypeId)) (a : Int) (v : Value) (vs : List Value) (s i : Nat) : Instr.findNow (.interface ms) (key a) (ents s (v :: vs)) i = none := by
  simp [ents, Instr.findNow, Instr.sameNow, key]

theorem find_miss (w : World) (vs : List Value) : (Instr.findKey 53 (key (vs.length : Nat)) (ents 0 vs)).run Yba.prog w = .ok none w := by
  cases vs with
  | nil => simp [Instr.findKey, run_underlying Yba.underlying53, ents, Instr.findNow]
  | cons v vs =>
    simp only [Instr.findKey, Sem.run_bind, run_underlying Yba.underlying53, Result.andThen_ok, findNow_none]
    exact asking_miss _ w (v :: vs) 0 0 (by simp)

theorem find_hit (w : World) (vs : List Value) (d : Nat) (v : Value) (h : vs[d]? = some v) : (Instr.findKey 53 (key (d : Nat)) (ents 0 vs)).run Yba.prog w = .ok (some (d, v)) w := by
  cases vs with
  | nil => simp at h
  | cons u vs =>
    simp only [Instr.findKey, Sem.run_bind, run_underlying Yba.underlying53, Result.andThen_ok, findNow_none]
    have := asking_hit w (u :: vs) 0 0 d v h
    simpa using this

/-- 's.conns[zzs4004ckey{id: i}] = c', the key new. -/
theorem run_put (w : World) (b : Nat) (vs : List Value) (v : Value) (hb : w.heap[b]? = some (.map (ents 0 vs).toArray vs.length)) :
    (Instr.mapUpdate 39 (.map (some b)) (key (vs.length : Nat)) v).run Yba.prog w = .ok () (setBlock w b (.map (ents 0 (vs ++ [v])).toArray (vs ++ [v]).length)) := by
  simp only [Instr.mapUpdate, Sem.run_bind, run_underlying Yba.underlying39, Result.andThen_ok, MapKept.run_getObj_map hb, check_key, find_miss, MapKept.run_setObj_map _ hb]
  rw [ents_snoc]
  simp [setBlock]

/-- 'c, ok := s.conns[zzs4004ckey{id: i}]', the key there. -/
theorem run_look (w : World) (b : Nat) (vs : List Value) (d : Nat) (v : Value) (hb : w.heap[b]? = some (.map (ents 0 vs).toArray vs.length)) (h : vs[d]? = some v) :
    (Instr.lookup 39 (.map (some b)) (key (d : Nat)) true).run Yba.prog w = .ok (.tuple #[v, .bool true]) w := by
  simp only [Instr.lookup, Sem.run_bind, run_underlying Yba.underlying39, Result.andThen_ok, MapKept.run_getObj_map hb, Sem.run_pure, check_key, find_hit w vs d v h]
  simp
end Go.Proofs.Ybulkcdxa
