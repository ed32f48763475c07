import Derived.Test.YbulkboaaBBreach
import Derived.Test.YbulkboaaBLink
import Derived.Deep.CutRange
import Derived.Laws.BitsLemmas
import Derived.Lib.EndianBits
namespace Go.Proofs.Ybulkboaa.BBreach2
open Go.RowKit MapLaw CBase BPlain BBreach BLink
set_option linter.unusedVariables false
set_option maxRecDepth 100000

/-- the search's memory: the marks, the queue -/
structure BMem (w wr : World) (vb K : Nat) (Q : List Nat) (qv : Value) : Prop where
  vis : Tab wr vb 4 K (fun i => .bool (decide (i ∈ Q)))
  own : wr.ownsRow (vb + 1) 3 1 qv Q.length (Q.map fun (u : Nat) => Value.int .i64 (u : Int))
  bel : Below vb w wr
  lt : vb < wr.heap.size

theorem BMem.start {w wv : World} {K start : Nat} (h : Tab wv w.heap.size 4 K (fun _ => .bool false)) (hb : Below w.heap.size w wv) (hs : wv.heap.size = w.heap.size + 1) :
    BMem w ((wv.setCell ⟨w.heap.size, start, none⟩ (.bool true)).alloc (.cells #[.int .i64 (start : Int)] 3)) w.heap.size K [start] (.slice (some ⟨wv.heap.size, 0, none⟩) 1 1) := by
  have h1 := h.set start (.bool true)
  have hl := h1.lt
  refine ⟨(h1.same (Below.heap_alloc _ _ _ hl)).congr fun i hi => ?_, ?_, (hb.setCell (by simp) _).alloc (by simp; omega) _, by simp; omega⟩
  · by_cases e : i = start
    · subst e; simp
    · rw [up_other _ _ e]; simp [e]
  · have := World.ownsRow_lit (base := w.heap.size + 1) (e := 3) (size := 1) (wv.setCell ⟨w.heap.size, start, none⟩ (.bool true)) #[.int .i64 (start : Int)] 1 (by simp; omega) (by unfold maxLen; omega) rfl
    simpa using this

theorem info3 : (Yba.prog.info? 3).map (fun i => (i.zero, i.size, i.bytes)) = some (some (.int .i64 0), 1, 8) := by kernel_rfl

/-- a node met for the first time: marked, put into the queue -/
theorem BMem.push {w wz : World} {vb K d : Nat} {Q : List Nat} {qv : Value} (h : BMem w wz vb K Q qv) (hd : d < K) (hK : K ≤ 256) (hQ : Q.length ≤ 256) :
    ∃ g cap w1, (∀ ty, (Builtin.append_ #[22, 22] ty #[qv, .slice (some ⟨wz.heap.size, 0, none⟩) 1 1]).run Yba.prog ((wz.setCell ⟨vb, d, none⟩ (.bool true)).alloc (.cells #[.int .i64 (d : Int)] 3)) = .ok (.slice (some ⟨g, 0, none⟩) (Q.length + 1) cap) w1) ∧
      BMem w w1 vb K (Q ++ [d]) (.slice (some ⟨g, 0, none⟩) (Q.length + 1) cap) := by
  obtain ⟨i, hi, h2⟩ := Option.map_eq_some_iff.1 info3
  simp only [Prod.mk.injEq] at h2
  have hv := h.vis.set d (.bool true)
  have hl := h.lt
  have ho : ((wz.setCell ⟨vb, d, none⟩ (.bool true)).alloc (.cells #[.int .i64 (d : Int)] 3)).ownsRow (vb + 1) 3 1 qv Q.length (Q.map fun (u : Nat) => Value.int .i64 (u : Int)) := (ownsRow_setCell_below h.own (a := ⟨vb, d, none⟩) (Nat.lt_succ_self vb) _).alloc _
  have hsz : ((wz.setCell ⟨vb, d, none⟩ (.bool true)).alloc (.cells #[.int .i64 (d : Int)] 3)).heap.size = wz.heap.size + 1 := by simp
  have hnew : ((wz.setCell ⟨vb, d, none⟩ (.bool true)).alloc (.cells #[.int .i64 (d : Int)] 3)).heap[wz.heap.size]? = some (.cells #[.int .i64 (d : Int)] 3 (0, 0)) := by
    have := heap_alloc_new (wz.setCell ⟨vb, d, none⟩ (.bool true)) (.cells #[.int .i64 (d : Int)] 3)
    simpa using this
  obtain ⟨g, cap, w1, hr, hown, hg, hat, hlt⟩ := run_append_lies (P := Yba.prog) _ 22 0 (vb + 1) 3 i (.int .i64 0) 1 8 Yba.underlying22 hi h2.1 h2.2.1 h2.2.2 rfl (by omega) qv Q.length _ ho
    ⟨wz.heap.size, 0, none⟩ 1 1 [.int .i64 (d : Int)] rfl (World.news_of_block (cs := #[.int .i64 (d : Int)]) (t := 3) (fr := (0, 0)) hnew) (by simp [Value.oneCell']) (by omega) (by unfold maxLen; omega) (by omega) (by omega) _ rfl
  have hob : ∀ k, qv.ownBlock = some k → vb + 1 ≤ k := fun k hk => (h.own.lt k hk).1
  refine ⟨g, cap, w1, fun ty => hr, ?_, ?_, ?_, by have := hg.size; omega⟩
  · refine (hv.same (W' := w1) ?_).congr fun j hj => ?_
    · rw [hg.block vb (by omega) (fun e => by have := hob vb e.symm; omega)]
      exact Below.heap_alloc _ _ _ hv.lt
    · by_cases e : j = d
      · subst e; simp
      · rw [up_other _ _ e]; simp [e]
  · have e : (Q ++ [d]).length = Q.length + 1 := by simp
    rw [e, List.map_append]
    exact hown
  · exact ((h.bel.setCell (p := ⟨vb, d, none⟩) (Nat.le_refl _) _).alloc (by simp; omega) _).grown hg (by omega) (fun k hk => by have := hob k hk; omega)

/-- the numbers of an edge -/
theorem edge_num (z K : Nat) (hz : z ≤ 65535) (hK : 0 < K) : ∃ dl sl d s : Nat, bits BinOp.and IntKind.u16 (z : Int) 255 = (dl : Int) ∧ dl ≤ 255 ∧ (z : Int) / 256 = (sl : Int) ∧ (z : Int) / 2 ^ 8 = (sl : Int) ∧ sl ≤ 255 ∧ ((dl : Int)).tmod (K : Int) = (d : Int) ∧ ((sl : Int)).tmod (K : Int) = (s : Int) ∧ d < K ∧ s < K ∧ s = z / 256 % K ∧ d = z % 256 % K := by
  refine ⟨z % 256, z / 256, z % 256 % K, z / 256 % K, ?_, by omega, by omega, by omega, by omega, ?_, ?_, Nat.mod_lt _ hK, Nat.mod_lt _ hK, rfl, rfl⟩
  · have h := bits_mask .u16 16 (by decide) (fun n h0 h1 => by rw [IntKind.wrap_u16]; omega) 8 (by omega) (z : Int) (by omega) (by omega)
    have e : ((2 : Int) ^ 8 - 1) = 255 := by decide
    rw [e] at h
    rw [h]
    omega
  · exact (Int.ofNat_tmod (z % 256) K).symm
  · exact (Int.ofNat_tmod (z / 256) K).symm

/-- what the search answers -/
structure BPost (w : World) (E : List (Nat × Nat)) (aim : Nat → Bool) (self : Bool) (start : Nat) (e : Ending) (w' : World) : Prop where
  ans : ∃ r, e = .returned (.bool r) ∧ (r = true ↔ (self = true ∧ aim start = true) ∨ Hit E (fun x => aim x = true) (fun s => s = start))
  bel : Below w.heap.size w w'

set_option maxHeartbeats 4000000 in
theorem breach_any (K len cap acap start ab : Nat) (a : Option Addr) (zs : List Nat) (self : Bool) (aim : Nat → Bool) (w : World) (hK : 0 < K) (hK2 : K ≤ 256) (hs : start < K) (hz : zs.length = len) (hlen : len ≤ 1024)
    (hrow : ∀ i, i < len → ∃ x, a = some x ∧ w.cell? (x.add i) = some (.int .u16 ((zs.getD i 0 : Nat) : Int))) (hby : ∀ i, zs.getD i 0 ≤ 65535) (ha : Tab w ab 4 K (fun i => .bool (aim i))) :
    Calls Yba.prog 10 #[.int .i64 (K : Int), .slice a len cap, .int .i64 (start : Int), .bool self, .slice (some ⟨ab, 0, none⟩) K acap] w
      fun e w' => BPost w (edgesOf K zs) aim self start e w' := by
  have HRow : Hid (∀ i, i < len → ∃ x, a = some x ∧ (x.add i).block < w.heap.size ∧ w.cell? (x.add i) = some (.int .u16 ((zs.getD i 0 : Nat) : Int))) := fun i hi => by
    obtain ⟨x, hx, hc⟩ := hrow i hi
    exact ⟨x, hx, World.block_lt_of_cell? w _ hc, hc⟩
  have HBy : Hid (∀ i, zs.getD i 0 ≤ 65535) := hby
  have HAim : Hid (Tab w ab 4 K (fun i => .bool (aim i))) := ha
  have ca := ha.cell hs
  have hs' : (start : Int) < (K : Int) := by omega
  have hK' : (0 : Int) ≤ (K : Int) := by omega
  clear hrow hby ha
  by_cases hself : self = true ∧ aim start = true
  · obtain ⟨rfl, hb⟩ := hself
    simp only [hb] at ca
    go_enter Yba.func10, Yba.ntmps10
    go_wp2
    go_ret
    exact ⟨⟨true, rfl, ⟨fun _ => .inl ⟨rfl, hb⟩, fun _ => rfl⟩⟩, Below.refl _ _⟩
  · obtain ⟨wv, hmk, hvis, hbv, hsv⟩ := make_tab w 36 4 (.bool false) 1 K Yba.underlying36 (by kernel_rfl) rfl (by omega) (by omega)
    have HV : Hid (Tab wv w.heap.size 4 K (fun _ => .bool false) ∧ Below w.heap.size w wv ∧ wv.heap.size = w.heap.size + 1) := ⟨hvis, hbv, hsv⟩
    have cv := hvis.cell hs
    have fv := hvis.frozen start
    clear hvis hbv hsv
    have HSelf : Hid (¬ (self = true ∧ aim start = true)) := hself
    have hcase : self = false ∨ (self = true ∧ aim start = false) := by
      cases self <;> simp_all
    clear hself
    rcases hcase with rfl | ⟨rfl, hb⟩
    case' inr => simp only [hb] at ca
    all_goals
      go_enter Yba.func10, Yba.ntmps10
      go_wp2
      have hst := BMem.start (start := start) HV.out.1 HV.out.2.1 HV.out.2.2
      have HM0 : Hid _ := hst
      clear hst HV cv fv hmk ca
      generalize ((wv.setCell ⟨w.heap.size, start, none⟩ (.bool true)).alloc (.cells #[.int .i64 (start : Int)] 3)) = W1 at *
      generalize wv.heap.size = x0 at *
      generalize hvb : w.heap.size = vb at *
      have HVb : Hid (w.heap.size = vb) := hvb
      clear hvb
      go_loopw [12, 13] (fun qv hv wr => ∃ (Q : List Nat) (h : Nat), hv = .int .i64 h ∧ BInv (edgesOf K zs) aim K start Q h ∧ BMem w wr vb K Q qv) (fun _ hv _ => K + 1 - (intOf hv).toNat)
      case atStart => exact ⟨[start], 0, rfl, BInv.start _ _ hs, HM0.out⟩
      case round =>
        clear HM0
        obtain ⟨Q, h, rfl, hI, hM⟩ := hrel
        have HI : Hid _ := hI
        have HM : Hid _ := hM
        clear hI hM
        by_cases hlt : h < Q.length
        · have hlt' : (h : Int) < (Q.length : Int) := by omega
          obtain ⟨qg, qc, hqv, hqb, hql⟩ := HM.out.own.form (by omega)
          subst hqv
          have hQK := HI.out.len
          obtain ⟨u, hu⟩ : ∃ u, Q[h]? = some u := ⟨_, List.getElem?_eq_getElem hlt⟩
          have cq : wr.cell? ⟨qg, h, none⟩ = some (.int .i64 (u : Int)) := by
            rw [HM.out.own.cellAt h (by omega), List.getElem?_map, hu]; rfl
          have HU : Hid (Q[h]? = some u) := hu
          clear hu
          go_wp2
          go_loopw [12, 44] (fun qv jv wz => ∃ (Q' : List Nat) (j : Nat), jv = .int .i64 j ∧ j ≤ len ∧ BIn (edgesOf K zs) aim K start Q' h u j ∧ BMem w wz vb K Q' qv) (fun _ jv _ => len - (intOf jv).toNat)
          case atStart => exact ⟨Q, 0, rfl, Nat.zero_le _, BIn.start HI.out HU.out, HM.out⟩
          case round =>
            clear HI HM HU cq
            obtain ⟨Q', j, rfl, hj, hI, hM⟩ := hrel
            have HI : Hid _ := hI
            have HM : Hid _ := hM
            clear hI hM
            by_cases hjl : j < len
            · have hjl' : (j : Int) < (len : Int) := by omega
              obtain ⟨x, rfl, hxb, hxc⟩ := HRow.out j hjl
              have cx := (HM.out.bel.cell hxb).trans hxc
              have hze := HBy.out j
              have HZ : Hid (zs[j]? = some (zs.getD j 0)) := by
                show zs[j]? = some (zs.getD j 0)
                rw [List.getD_eq_getElem?_getD, List.getElem?_eq_getElem (by omega)]; rfl
              clear hxc
              generalize zs.getD j 0 = z at *
              obtain ⟨dl, sl, d, s, n1, n2, n3, n4, n5, n6, n7, n8, n9, n10, n11⟩ := edge_num z K hze hK
              have HEd : Hid ((edgesOf K zs)[j]? = some (s, d)) := by
                show (edgesOf K zs)[j]? = some (s, d)
                unfold edgesOf
                rw [List.getElem?_map, HZ.out, n10, n11]; rfl
              have n8' : (d : Int) < (K : Int) := by omega
              have cad := (HM.out.bel.cell (p := ⟨ab, d, none⟩) (by rw [← HVb.out]; exact HAim.out.lt)).trans (HAim.out.cell n8)
              have cvd := HM.out.vis.cell n8
              have fvd := HM.out.vis.frozen d
              clear n10 n11 HZ hze
              by_cases hsu : s = u
              · subst hsu
                by_cases hadm : aim d = true
                · simp only [hadm] at cad
                  have hhit := HI.out.hit HEd.out hadm
                  have HH : Hid _ := hhit
                  have HBel : Hid (Below vb w wr) := HM.out.bel
                  clear hhit HM HI
                  go_wp2
                  refine bodyPost_ret (v := .bool true) (by simp [results, Yba.results10, go_sem]) rfl ⟨⟨true, rfl, ⟨fun _ => .inr HH.out, fun _ => rfl⟩⟩, by rw [HVb.out]; exact HBel.out⟩
                · have hadm' : aim d = false := by simpa using hadm
                  simp only [hadm'] at cad
                  by_cases hdQ : d ∈ Q'
                  · simp only [hdQ, decide_true] at cvd
                    go_wp2
                    go_roundw
                    case rel => first | exact ⟨Q', j + 1, by go_num, by omega, HI.out.old HEd.out hadm' hdQ, HM.out⟩ | ((repeat apply Exists.intro); exact ⟨⟨Q', j + 1, by go_num, by omega, HI.out.old HEd.out hadm' hdQ, HM.out⟩, rfl⟩)
                    case measure => simp [intOf]; omega
                  · simp only [hdQ, decide_false] at cvd
                    obtain ⟨g2, cap2, w2, hrun, hM2⟩ := BMem.push HM.out n8 hK2 (by have := HI.out.inv.len; omega)
                    have HM2 : Hid _ := hM2
                    have HR : Hid _ := hrun
                    clear hM2 hrun
                    go_wp2_with (at_builtin; refine wpList_append_run (by rfl) _ _ _ (by rfl) (by rfl) (by rfl) HR.out ?_)
                    go_roundw
                    case rel => first | exact ⟨Q' ++ [d], j + 1, by go_num, by omega, HI.out.new HEd.out hadm' hdQ n8, HM2.out⟩ | ((repeat apply Exists.intro); exact ⟨⟨Q' ++ [d], j + 1, by go_num, by omega, HI.out.new HEd.out hadm' hdQ n8, HM2.out⟩, rfl⟩)
                    case measure => simp [intOf]; omega
              · have hsu' : ¬ (s : Int) = (u : Int) := by omega
                go_wp2
                go_roundw
                case rel => first | exact ⟨Q', j + 1, by go_num, by omega, HI.out.skip HEd.out hsu, HM.out⟩ | ((repeat apply Exists.intro); exact ⟨⟨Q', j + 1, by go_num, by omega, HI.out.skip HEd.out hsu, HM.out⟩, rfl⟩)
                case measure => simp [intOf]; omega
            · obtain rfl : j = len := by omega
              have hel : (edgesOf K zs).length = j := by unfold edgesOf; rw [List.length_map, hz]
              have hI2 := HI.out
              rw [← hel] at hI2
              have HI2 : Hid _ := hI2.fin
              have hQK2 := HI.out.inv.len
              have hh := (List.getElem?_eq_some_iff.1 HI.out.at_).1
              clear hI2 hel
              go_wp2
              go_roundw
              case rel => first | exact ⟨Q', h + 1, by go_num, HI2.out, HM.out⟩ | ((repeat apply Exists.intro); exact ⟨⟨Q', h + 1, by go_num, HI2.out, HM.out⟩, rfl⟩)
              case measure => simp [intOf]; omega
        · have hle := HI.out.le
          obtain rfl : h = Q.length := by omega
          have hpos : 0 < Q.length := List.length_pos_of_mem HI.out.first
          obtain ⟨qg, qc, hqv, hqb, hql⟩ := HM.out.own.form hpos
          subst hqv
          have hno := HI.out.none
          have HNo : Hid _ := hno
          clear hno
          go_wp2
          refine bodyPost_ret (v := .bool false) (by simp [results, Yba.results10, go_sem]) rfl ⟨⟨false, rfl, ⟨fun q => by simp at q, fun q => by rcases q with q | q; (first | exact absurd q HSelf.out | exact absurd ⟨trivial, q.2⟩ HSelf.out); exact absurd q HNo.out⟩⟩, by rw [HVb.out]; exact HM.out.bel⟩
end Go.Proofs.Ybulkboaa.BBreach2
