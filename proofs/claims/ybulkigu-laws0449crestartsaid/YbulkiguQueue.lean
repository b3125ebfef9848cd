/-
  THE WALKS OF (*Engine).push AND pop, where the queue holds no event before (push) and one (pop).
-/
import Derived.Test.YbulkiguEng
import Derived.Deep.RegionLawGrows
import Derived.Lib.SmallJoins
import Derived.BigQuiet
import Derived.BigRegion
import Derived.Deep.QuietTactic
namespace Go.Proofs.Ybulkigu
open Go.ChangeShapes Go.WideShapes Go.ChangeAt Go.RowKit

/-- an append onto a row of the call's own, as one step of a region that draws -/
theorem step_append_own {P : Program} {ops : Array Oper} {o : Oper} {a : Act} {w : World} {K : Act → World → Prop} {Q : Exit → Act → World → Prop} {E : Prop}
    (hg : o.guard = none) (s x : Operand) (t : TypeId) (hop : o.op = Op.call { callee := Callee.builtin Builtin.append, args := #[s, x], argTypes := #[t, t] })
    (e : TypeId) (i : TypeInfo) (z : Value) (size bytes : Nat) (h1 : P.underlying t = some (.slice e)) (h2 : P.info? e = some i) (h3 : i.zero = some z) (h4 : i.size = size) (h5 : i.bytes = bytes) (h6 : z.cells.size = size) (h7 : 0 < size)
    (base : Nat) (v : Value) (n : Nat) (xs : List Value) (hs : a.eval s = v) (hown : w.ownsRow base e size v n xs)
    (ad : Addr) (m c : Nat) (news : List Value) (hx : a.eval x = .slice (some ad) m c) (hn : news.length = m * size) (hc : ∀ j u, news[j]? = some u → w.cell? (ad.add j) = some u) (h1c : ∀ u ∈ news, u.oneCell' = true)
    (b1 : n + m ≤ maxLen) (b2 : (n + m) * bytes ≤ 140737488355328) (hbase : base ≤ w.heap.size)
    (hK : ∀ v' w', w'.ownsRow base e size v' (n + m) (xs ++ news) → w.grownBy w' v.ownBlock → K (a.put o.dst v') w') :
    if Region.wanted o (yielded ops a.tmps) = true then Oper.wp P o a w K Q else E := by
  have hw : Region.wanted o (yielded ops a.tmps) = true := by simp [Region.wanted, hg]
  rw [if_pos hw]
  obtain ⟨v', w', hrun, r1, r2, _⟩ := run_append_own (P := P) w base t o.type e i z size bytes h1 h2 h3 h4 h5 h6 h7 v n xs hown ad m c news hn hc h1c b1 b2 hbase
  unfold Oper.wp
  simp [execOp, hop, resolve, invoke, builtin, hs, hx, hrun, Result.andThen]
  exact hK v' w' r1 r2

/-- of the blocks that S names nothing has turned -/
structure Keep (S : Nat → Prop) (w w' : World) : Prop where
  os : w'.os = w.os
  tape : w'.tape = w.tape
  output : w'.output = w.output
  size : w.heap.size ≤ w'.heap.size
  block : ∀ k, S k → w'.heap[k]? = w.heap[k]?

theorem Keep.refl (S : Nat → Prop) (w : World) : Keep S w w := ⟨rfl, rfl, rfl, Nat.le_refl _, fun _ _ => rfl⟩
theorem Keep.trans {S : Nat → Prop} {a b c : World} (h : Keep S a b) (k : Keep S b c) : Keep S a c :=
  ⟨k.os.trans h.os, k.tape.trans h.tape, k.output.trans h.output, Nat.le_trans h.size k.size, fun i hi => (k.block i hi).trans (h.block i hi)⟩
theorem Keep.mono {S S' : Nat → Prop} {w w' : World} (h : Keep S w w') (hS : ∀ k, S' k → S k) : Keep S' w w' := ⟨h.os, h.tape, h.output, h.size, fun k hk => h.block k (hS k hk)⟩
theorem Keep.drew {S : Nat → Prop} {a w : World} (h : Keep S a w) : Keep S a w.drew := ⟨h.os, h.tape, h.output, h.size, h.block⟩
theorem Keep.alloc {S : Nat → Prop} {a w : World} (h : Keep S a w) (hS : ∀ k, S k → k < w.heap.size) (o : Obj) : Keep S a (w.alloc o) :=
  h.trans ⟨rfl, rfl, rfl, by simp, fun k hk => Below.heap_alloc w o k (hS k hk)⟩
theorem Keep.setCell {S : Nat → Prop} {a w : World} (h : Keep S a w) {p : Addr} (hp : ¬ S p.block) (u : Value) : Keep S a (w.setCell p u) :=
  h.trans ⟨rfl, rfl, rfl, by simp [World.setCell], fun k hk => heap_setCell_other _ _ _ _ (fun e => hp (e ▸ hk))⟩
theorem Keep.grown {S : Nat → Prop} {a w w' : World} {row : Option Nat} (h : Keep S a w) (hg : w.grownBy w' row) (hS : ∀ k, S k → k < w.heap.size) (hr : ∀ k, row = some k → ¬ S k) : Keep S a w' :=
  h.trans ⟨hg.os, hg.tape, hg.output, hg.size, fun k hk => hg.block k (hS k hk) (fun e => hr k e.symm hk)⟩

theorem Yba.info102 : (Yba.prog.info? 102).map (fun i => (i.zero, i.size, i.bytes)) = some (some (.agg #[.float .f64 0, .int .u64 0, .nilIface]), 3, 32) := by kernel_rfl

theorem cells_new (w : World) (cs : Array Value) (t : TypeId) (n : Nat) (hn : w.heap.size = n) :
    ∀ j u, cs.toList[j]? = some u → (w.alloc (.cells cs t)).cell? ((⟨n, 0, none⟩ : Addr).add j) = some u := by
  intro j u hj
  subst hn
  have hadd : (⟨w.heap.size, 0, none⟩ : Addr).add j = ⟨w.heap.size, j, none⟩ := by unfold Addr.add; split <;> simp_all
  rw [hadd, cell_of_row _ w.heap.size j cs t (0, 0) (MapKept.heap_alloc w _).1]
  simpa using hj

theorem push_keeps {w w' : World} {N : Nat} {sl : Value} {o1 o2 : Obj} {xs : List Value} {n : Nat} (hown : w.ownsRow (N + 5) 102 3 sl n xs) (hN : N + 5 ≤ w.heap.size)
    (hg : ((w.alloc o1).alloc o2).drew.grownBy w' sl.ownBlock) : Keep (fun k => k < N + 5) w w' := by
  have k1 : Keep (fun k => k < N + 5) w ((w.alloc o1).alloc o2).drew :=
    (((Keep.refl _ w).alloc (fun k hk => by omega) o1).alloc (fun k hk => by simp; omega) o2).drew
  refine k1.grown hg (fun k hk => by show k < ((w.alloc o1).alloc o2).heap.size; simp; omega) (fun k hk => ?_)
  have := (hown.lt k hk).1
  omega

set_option maxHeartbeats 2000000 in
set_option maxRecDepth 20000 in
theorem push_any (N : Nat) (w : World) (now : Nat) (seq sd str : Int) (sl hv : Value) (st : Bool) (t : Nat) (s : Int)
    (hE : w.heap[N]? = some (.cells #[.float .f64 now, .int .u64 seq, sl, .bool st, .int .u64 sd, .int .u64 str] 51 (0, 0)))
    (hown : w.ownsRow (N + 5) 102 3 sl 0 []) (hN : N + 5 ≤ w.heap.size) :
    Calls Yba.prog 37 #[.pointer (some ⟨N, 0, none⟩), .agg #[.float .f64 t, .int .u64 s, .iface 98 hv]] w fun e w' => e = .returned (.tuple #[]) ∧
      ∃ sl', w'.heap[N]? = some (.cells #[.float .f64 now, .int .u64 seq, sl', .bool st, .int .u64 sd, .int .u64 str] 51 (0, 0)) ∧
        w'.ownsRow (N + 5) 102 3 sl' 1 [.float .f64 t, .int .u64 s, .iface 98 hv] ∧ Keep (fun k => k < N + 5 ∧ k ≠ N) w w' := by
  obtain ⟨i0, hi, hz0, hz1, hz2⟩ := info_parts Yba.info102
  have hlt : N < w.heap.size := by omega
  have c2 : w.cell? ⟨N, 2, none⟩ = some sl := by rw [cell_of_row w N 2 _ _ _ hE]; rfl
  have f2 : w.frozen? ⟨N, 2, none⟩ = false := frozen_of_row w N 2 _ _ hE
  go_enter Yba.func37, Yba.ntmps37
  go_wp2
  go_region_law (
    refine step_append_own rfl (.tmp 10) (.tmp 12) 49 rfl 102 i0 (.agg #[.float .f64 0, .int .u64 0, .nilIface]) 3 32 Yba.underlying49 hi hz0 hz1 hz2 rfl (by decide) (N + 5) sl 0 [] rfl ((hown.alloc _).alloc _) ⟨w.heap.size + 1, 0, none⟩ 1 1 [.float .f64 t, .int .u64 s, .iface 98 hv] rfl rfl ?_ ?_ (by unfold maxLen; omega) (by omega) (by simp <;> omega) ?_
    · exact cells_new _ #[.float .f64 t, .int .u64 s, .iface 98 hv] _ _ (by simp)
    · intro u hu; simp at hu; rcases hu with rfl | rfl | rfl <;> rfl
    intro v' w' ho hg
    obtain ⟨g, cap, rfl⟩ := Joins.ownsRow_form ho (by omega)
    have HK := push_keeps hown hN hg
    have hE' := (HK.block N (by omega)).trans hE
    have d2 : w'.cell? ⟨N, 2, none⟩ = some sl := by rw [cell_of_row w' N 2 _ _ _ hE']; rfl
    have e2 : w'.frozen? ⟨N, 2, none⟩ = false := frozen_of_row w' N 2 _ _ hE')
  all_goals
    go_wp2
    refine wp_loop_rounds 1 ?_
    rw [rounds_succ]
    go_wp2
    go_end0
    refine ⟨rfl, _, heap_setCell_same w' N 2 _ _ _ hE', ?_, ?_⟩
    · exact ownsRow_setCell_below (by simpa using ho) (by show N < N + 5; omega) _
    · exact (HK.mono (fun k hk => hk.1)).setCell (by simp) _

end Go.Proofs.Ybulkigu
