/-
  THE WALK OF zzs0459amodel.
-/
import Derived.Test.YbulkimeAgrees
namespace Go.Proofs.Ybulkime
open Go.RowKit

/-- what stands while the frames are searched -/
structure Out (w0 : World) (x : Int) (w : World) : Prop where
  bel : Below w0.heap.size w0 w
  res : w.heap[w0.heap.size + 1 + 1]? = some (.cells #[.int .u8 0, .int .i64 0, .nilIface] 32 (0, 0))
  top : w.heap[w0.heap.size + 1 + 1 + 1]? = some (.cells #[.int .u8 2, .int .i64 x, .nilIface] 32 (0, 0))

theorem Out.alloc {w0 w : World} {x : Int} (h : Out w0 x w) (o : Obj) : Out w0 x (w.alloc o) := ⟨h.bel.alloc h.bel.size o, alloc_old h.res o, alloc_old h.top o⟩

theorem Out.start (w0 : World) (x : Int) (fa va : Array Value) : Out w0 x ((((w0.alloc (.cells fa 22)).alloc (.cells va 23)).alloc (.cells #[.int .u8 0, .int .i64 0, .nilIface] 32)).alloc (.cells #[.int .u8 2, .int .i64 x, .nilIface] 32)) := by
  refine ⟨((((Below.refl _ _).alloc (Nat.le_refl _) _).alloc (by simp) _).alloc (by simp; omega) _).alloc (by simp; omega) _, ?_, ?_⟩
  · have := alloc_new ((w0.alloc (.cells fa 22)).alloc (.cells va 23)) (.cells #[.int .u8 0, .int .i64 0, .nilIface] 32)
    rw [alloc_size, alloc_size] at this
    exact alloc_old this _
  · have := alloc_new (((w0.alloc (.cells fa 22)).alloc (.cells va 23)).alloc (.cells #[.int .u8 0, .int .i64 0, .nilIface] 32)) (.cells #[.int .u8 2, .int .i64 x, .nilIface] 32)
    rw [alloc_size, alloc_size, alloc_size] at this
    exact this

set_option maxHeartbeats 4000000 in
set_option maxRecDepth 100000 in
theorem model_any (w : World) (fl vl : Nat → Int) (fp : Option Addr) (n fc : Nat) (FS : List Fr) (hn : FS.length = n) (hm : n ≤ 9223372036854775807) (hF : Frames w.heap.size w fp FS) (k : Nat) (hk : k < 4) :
    Calls Yba.prog 8 #[flagsV fl, valsV vl, .slice fp n fc, .int .i64 (k : Int)] w fun e w' =>
      e = .returned (.tuple #[val3 (lookAns k vl (bdF fl) (lcF fl) FS.reverse).1, .bool (lookAns k vl (bdF fl) (lcF fl) FS.reverse).2]) ∧ Below w.heap.size w w' := by
  have hki : (k : Int) < 4 := by omega
  obtain ⟨fa, hfa, hfs, g1⟩ : ∃ fa : Array Value, flagsV fl = .agg fa ∧ fa.size = 4 ∧ fa[k]? = some (.int .u8 (fl k)) := ⟨_, rfl, rfl, getD4 (fun i => .int .u8 (fl i)) k hk⟩
  obtain ⟨va, hva, hvs, g2⟩ : ∃ va : Array Value, valsV vl = .agg va ∧ va.size = 4 ∧ va[k]? = some (.int .i64 (vl k)) := ⟨_, rfl, rfl, getD4 (fun i => .int .i64 (vl i)) k hk⟩
  rw [hfa, hva]
  clear hfa hva
  have hkf : k < fa.size := by omega
  have hkv : k < va.size := by omega
  have g3 : fa[k] = .int .u8 (fl k) := by
    rw [Array.getElem?_eq_getElem hkf] at g1
    exact Option.some.inj g1
  have g4 : va[k] = .int .i64 (vl k) := by
    rw [Array.getElem?_eq_getElem hkv] at g2
    exact Option.some.inj g2
  by_cases hlc : (bits BinOp.and IntKind.u8 (fl k) 2 != 0) = false
  · have HA : Hid (lookAns k vl (bdF fl) (lcF fl) FS.reverse = (some (vl k), bits BinOp.and IntKind.u8 (fl k) 1 != 0)) := by
      show _ = _
      unfold lookAns
      rw [if_pos (.inr hlc)]
      rfl
    go_enter Yba.func8, Yba.ntmps8
    go_wp2
    all_goals
      refine bodyPost_ret (v := .tuple #[.agg #[.int .u8 2, .int .i64 (vl k), .nilIface], .bool (bits BinOp.and IntKind.u8 (fl k) 1 != 0)]) (by simp [results, Yba.results8, go_sem]) rfl ?_
      rw [HA.out]
      exact ⟨rfl, ((((Below.refl _ _).alloc (Nat.le_refl _) _).alloc (by simp) _).alloc (by simp; omega) _).alloc (by simp; omega) _⟩
  · have hlt : (bits BinOp.and IntKind.u8 (fl k) 2 != 0) = true := by simpa using hlc
    by_cases hn0 : n = 0
    · have HA : Hid (lookAns k vl (bdF fl) (lcF fl) FS.reverse = (some (vl k), bits BinOp.and IntKind.u8 (fl k) 1 != 0)) := by
        show _ = _
        unfold lookAns
        rw [if_pos (.inl (by simp; exact List.length_eq_zero_iff.1 (by omega)))]
        rfl
      subst hn0
      clear hlc
      go_enter Yba.func8, Yba.ntmps8
      go_wp2
      refine bodyPost_ret (v := .tuple #[.agg #[.int .u8 2, .int .i64 (vl k), .nilIface], .bool (bits BinOp.and IntKind.u8 (fl k) 1 != 0)]) (by simp [results, Yba.results8, go_sem]) rfl ?_
      rw [HA.out]
      exact ⟨rfl, ((((Below.refl _ _).alloc (Nat.le_refl _) _).alloc (by simp) _).alloc (by simp; omega) _).alloc (by simp; omega) _⟩
    · have HA : Hid (lookAns k vl (bdF fl) (lcF fl) FS.reverse = callAns k vl (bdF fl) FS.reverse) := by
        show _ = _
        unfold lookAns
        rw [if_neg]
        rintro (h | h)
        · simp at h
          subst h
          simp at hn
          omega
        · exact hlc h
      clear hlc
      go_enter Yba.func8, Yba.ntmps8
      go_wp2
      go_loopg [13] n (fun t p wq => ∃ t' : Nat, t = t' ∧ t' ≤ n ∧ p = .int .i64 ((t' : Int) - 1) ∧ Out w (vl k) wq ∧ find k FS.reverse = find k (FS.take t').reverse)
      case atStart => exact ⟨n, rfl, Nat.le_refl _, rfl, Out.start _ _ _ _, by rw [List.take_of_length_le (by omega)]⟩
      case round =>
        obtain ⟨t, rfl, ht, rfl, hO, hfe⟩ := hrel
        obtain ⟨wr0, hwr0⟩ : ∃ x, x = wr := ⟨_, rfl⟩
        subst hwr0
        have HO : Hid (Out w (vl k) wr0) := hO
        have r1 : wr0.cell? ⟨w.heap.size + 1 + 1, 0, none⟩ = some (.int .u8 0) := by rw [cell_row hO.res]; rfl
        have r2 : wr0.cell? ⟨w.heap.size + 1 + 1, 1, none⟩ = some (.int .i64 0) := by rw [cell_row hO.res]; rfl
        have r3 : wr0.cell? ⟨w.heap.size + 1 + 1, 2, none⟩ = some .nilIface := by rw [cell_row hO.res]; rfl
        have f1 : wr0.frozen? ⟨w.heap.size + 1 + 1, 0, none⟩ = false := frozen_of_row wr0 _ 0 _ _ hO.res
        have f2 : wr0.frozen? ⟨w.heap.size + 1 + 1, 1, none⟩ = false := frozen_of_row wr0 _ 1 _ _ hO.res
        have f3 : wr0.frozen? ⟨w.heap.size + 1 + 1, 2, none⟩ = false := frozen_of_row wr0 _ 2 _ _ hO.res
        have lr : w.heap.size + 1 + 1 < wr0.heap.size := (Array.getElem?_eq_some_iff.1 hO.res).1
        cases gk with
        | zero =>
          have HF : Hid (find k FS.reverse = none) := hfe
          have t1 : wr0.cell? ⟨w.heap.size + 1 + 1 + 1, 0, none⟩ = some (.int .u8 2) := by rw [cell_row hO.top]; rfl
          have t2 : wr0.cell? ⟨w.heap.size + 1 + 1 + 1, 1, none⟩ = some (.int .i64 (vl k)) := by rw [cell_row hO.top]; rfl
          have t3 : wr0.cell? ⟨w.heap.size + 1 + 1 + 1, 2, none⟩ = some .nilIface := by rw [cell_row hO.top]; rfl
          have HBel : ∀ x1 x2 x3 : Value, Below w.heap.size w (((wr0.setCell ⟨w.heap.size + 1 + 1, 0, none⟩ x1).setCell ⟨w.heap.size + 1 + 1, 1, none⟩ x2).setCell ⟨w.heap.size + 1 + 1, 2, none⟩ x3) := fun x1 x2 x3 =>
            ((hO.bel.setCell (by show w.heap.size ≤ w.heap.size + 1 + 1; omega) x1).setCell (by show w.heap.size ≤ w.heap.size + 1 + 1; omega) x2).setCell (by show w.heap.size ≤ w.heap.size + 1 + 1; omega) x3
          clear hO hfe
          by_cases hb : (bits BinOp.and IntKind.u8 (fl k) 1 != 0) = true
          · have HC : Hid (callAns k vl (bdF fl) FS.reverse = (some (vl k), true)) := by
              show _ = _
              have hb' : bdF fl k = true := hb
              simp only [callAns, HF.out, hb', if_true]
            go_wp2
            refine bodyPost_ret (v := .tuple #[.agg #[.int .u8 2, .int .i64 (vl k), .nilIface], .bool true]) (by simp [results, Yba.results8, go_sem, r1, r2, r3]) rfl ?_
            rw [HA.out, HC.out]
            exact ⟨rfl, HBel _ _ _⟩
          · have hb2 : (bits BinOp.and IntKind.u8 (fl k) 1 != 0) = false := by simpa using hb
            have HC : Hid (callAns k vl (bdF fl) FS.reverse = (none, false)) := by
              show _ = _
              have hb' : bdF fl k = false := hb2
              simp only [callAns, HF.out, hb', Bool.false_eq_true, if_false]
            clear hb
            go_wp2
            refine bodyPost_ret (v := .tuple #[.agg #[.int .u8 0, .int .i64 0, .nilIface], .bool false]) (by simp [results, Yba.results8, go_sem, r1, r2, r3]) rfl ?_
            rw [HA.out, HC.out]
            exact ⟨rfl, HBel _ _ _⟩
        | succ t =>
          have htl : t < FS.length := by omega
          have hti : (t : Int) < (n : Int) := by omega
          have e1 : (((t + 1 : Nat) : Int) - 1) = (t : Int) := by omega
          have hFq := hF.on hO.bel
          rcases hFq.row with h0 | ⟨fb, fo, rfl, hfb, hc⟩
          · omega
          obtain ⟨c0, c1, c2⟩ := hc t htl
          have hok := hFq.each FS[t] (List.getElem_mem htl)
          have HFE : Hid (find k FS.reverse = find k (FS[t] :: (FS.take t).reverse)) := by
            show _ = _
            rw [hfe, List.take_succ_eq_append_getElem htl, List.reverse_append]
            rfl
          generalize FS[t] = f at c0 c1 c2 hok HFE
          have hfm := hok.nm
          have HOK : Hid (FrOk w.heap.size wr0 f) := hok
          have lfb : fb < wr0.heap.size := by omega
          clear hc hok hFq hfe hO
          go_wp2
          go_loopg [15] f.nn (fun u p wq => ∃ u' : Nat, u = u' ∧ u' ≤ f.nn ∧ p = .int .i64 ((u' : Int) - 1) ∧ wq = wr0.alloc (.cells #[.slice f.np f.nn f.nc, .slice f.vp f.vn f.vc, .bool f.ix] 43) ∧ lastAt f k f.nn = lastAt f k u')
          case atStart => exact ⟨f.nn, rfl, Nat.le_refl _, rfl, rfl, rfl⟩
          case round =>
            obtain ⟨u, rfl, hu, rfl, rfl, hla⟩ := hrel
            have HLA : Hid (lastAt f k f.nn = lastAt f k gk) := hla
            clear hla
            cases gk with
            | zero =>
              go_wp2
              go_roundg t
              case measure => omega
              case rel => exact ⟨t, rfl, by omega, by go_num, HO.out.alloc _, HFE.out.trans (find_miss HLA.out)⟩
            | succ u =>
              have hui : (u : Int) < (f.nn : Int) := by omega
              have e2 : (((u + 1 : Nat) : Int) - 1) = (u : Int) := by omega
              rcases HOK.out.ns with h0 | ⟨nb, no, hnp, hnb, hnc⟩
              · omega
              have n0 := hnc u (by omega)
              obtain ⟨m, hmm⟩ : ∃ m : Nat, f.names.getD u 0 = (m : Int) := ⟨(f.names.getD u 0).toNat, by have := HOK.out.nb u; omega⟩
              have hm255 : m ≤ 255 := by have := HOK.out.nb u; omega
              rw [hmm] at n0
              obtain ⟨s, hsm⟩ : ∃ s, s = f.sym u := ⟨_, rfl⟩
              have hs4 : s < 4 := by rw [hsm]; exact sym_lt f u
              have htm : (m : Int).tmod 4 = (s : Int) := by
                apply tmod4
                rw [hsm]
                unfold Fr.sym
                rw [hmm]
                omega
              have HSM : Hid (s = f.sym u) := hsm
              have lnb : nb < wr0.heap.size := by omega
              clear hnc hmm hsm
              by_cases hsk : s = k
              · have HLB : Hid (lastAt f k f.nn = some u) := by
                  show _ = _
                  rw [HLA.out]
                  simp only [lastAt]
                  rw [if_pos (HSM.out.symm.trans hsk)]
                have HC : Hid (callAns k vl (bdF fl) FS.reverse = (some (f.val u), true)) := by
                  show _ = _
                  have := HFE.out.trans (find_hit HLB.out)
                  simp only [callAns, this]
                have HBel : ∀ (x1 x2 x3 : Value) (o : Obj), Below w.heap.size w ((((wr0.setCell ⟨w.heap.size + 1 + 1, 0, none⟩ x1).setCell ⟨w.heap.size + 1 + 1, 1, none⟩ x2).setCell ⟨w.heap.size + 1 + 1, 2, none⟩ x3).alloc o) := fun x1 x2 x3 o =>
                  (((HO.out.bel.setCell (by show w.heap.size ≤ w.heap.size + 1 + 1; omega) x1).setCell (by show w.heap.size ≤ w.heap.size + 1 + 1; omega) x2).setCell (by show w.heap.size ≤ w.heap.size + 1 + 1; omega) x3).alloc (by rw [set_size, set_size, set_size]; omega) o
                subst hsk
                by_cases huv : u < f.vn
                · rcases HOK.out.vs with h0 | ⟨vb, vo, hvp, hvb, hvc⟩
                  · omega
                  have v0 := hvc u huv
                  have hvm := HOK.out.vm
                  have huvi : (u : Int) < (f.vn : Int) := by omega
                  have lvb : vb < wr0.heap.size := by omega
                  have HX : Hid (f.val u = f.vals.getD u 0) := by
                    show _ = _
                    unfold Fr.val
                    rw [if_pos huv]
                  generalize f.vals.getD u 0 = x0 at v0 HX
                  clear hvc
                  go_wp2
                  refine bodyPost_ret (v := .tuple #[.agg #[.int .u8 2, .int .i64 x0, .nilIface], .bool true]) (by simp [results, Yba.results8, go_sem, r1, r2, r3, lr]) rfl ?_
                  rw [HA.out, HC.out, HX.out]
                  exact ⟨rfl, HBel _ _ _ _⟩
                · have huvi : ¬ (u : Int) < (f.vn : Int) := by omega
                  have HX : Hid (f.val u = 0) := by
                    show _ = _
                    unfold Fr.val
                    rw [if_neg huv]
                  go_wp2
                  refine bodyPost_ret (v := .tuple #[.agg #[.int .u8 2, .int .i64 0, .nilIface], .bool true]) (by simp [results, Yba.results8, go_sem, r1, r2, r3, lr]) rfl ?_
                  rw [HA.out, HC.out, HX.out]
                  exact ⟨rfl, HBel _ _ _ _⟩
              · have hski : ¬ (s : Int) = (k : Int) := by omega
                have HLB : Hid (lastAt f k f.nn = lastAt f k u) := by
                  show _ = _
                  rw [HLA.out]
                  simp only [lastAt]
                  rw [if_neg (fun e => hsk (HSM.out.trans e))]
                clear hsk
                go_wp2
                go_roundg u
                case measure => omega
                case rel => exact ⟨u, rfl, by omega, by go_num, by rw [hnp], HLB.out⟩

end Go.Proofs.Ybulkime
