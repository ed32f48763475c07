import Derived.Test.YbulkboaaBLawMem
import Derived.Test.YbulkboaaBBreach2
import Derived.Test.YbulkboaaBLawLem
import Derived.RegionTactic
import Derived.Deep.DeepCutAuto
namespace Go.Proofs.Ybulkboaa.BLaw
open Go.RowKit MapLaw CBase BPlain BBreach BBreach2 BMem BLink BLawMem BFollow BReach BReach2 BMap BRead BRead2 BLawLem
set_option linter.unusedVariables false
set_option maxRecDepth 100000

/-- append, not opened by the walk -/
def apX (ats : Array TypeId) (args : Array Value) : Sem Value := Builtin.append_ ats 0 args
@[go_sem ↓] theorem apx_eq (ats : Array TypeId) (ty : TypeId) (args : Array Value) : Builtin.append_ ats ty args = apX ats args := rfl

set_option maxHeartbeats 20000000 in
theorem law_any (k len cap glen gcap K : Nat) (a ga : Option Addr) (zs : List Nat) (bs : List Bool) (ws vs ts fl : Nat) (he rd : Bool) (s : ByteArray) (w : World) (hk : k ≤ 255) (hK : K = k + 1) (hlen : len ≤ 1024) (hglen : glen ≤ 1024) (hz : zs.length = len)
    (hrow : ∀ i, i < len → ∃ x, a = some x ∧ w.cell? (x.add i) = some (.int .u16 ((zs.getD i 0 : Nat) : Int))) (hby : ∀ i, zs.getD i 0 ≤ 65535) (hgrow : ∀ i, i < glen → ∃ x, ga = some x ∧ w.cell? (x.add i) = some (.bool (bs.getD i false)))
    (hws : ws ≤ 255) (hvs : vs ≤ 255) (hts : ts ≤ 255) (hfl : fl ≤ 255) (st : Nat → Nat) (hst : ∀ i, i < K → st i = if i < glen ∧ bs.getD i false = true then 2 else 0) (hstK : ∀ i, K ≤ i → st i = 0) :
    Calls Yba.prog 5 #[.int .u8 (k : Int), .slice a len cap, .slice ga glen gcap, .int .u8 (ws : Int), .int .u8 (vs : Int), .int .u8 (ts : Int), .bool he, .bool rd, .int .u8 (fl : Int), .string s] w fun e w' => e = .returned (.bool true) ∧ Below w.heap.size w w' := by
  have HRow : Hid (∀ i, i < len → ∃ x, a = some x ∧ (x.add i).block < w.heap.size ∧ w.cell? (x.add i) = some (.int .u16 ((zs.getD i 0 : Nat) : Int))) := fun i hi => by
    obtain ⟨x, hx, hc⟩ := hrow i hi
    exact ⟨x, hx, World.block_lt_of_cell? w _ hc, hc⟩
  have HGRow : Hid (∀ i, i < glen → ∃ x, ga = some x ∧ (x.add i).block < w.heap.size ∧ w.cell? (x.add i) = some (.bool (bs.getD i false))) := fun i hi => by
    obtain ⟨x, hx, hc⟩ := hgrow i hi
    exact ⟨x, hx, World.block_lt_of_cell? w _ hc, hc⟩
  have HRow0 : Hid (∀ i, i < len → ∃ x, a = some x ∧ w.cell? (x.add i) = some (.int .u16 ((zs.getD i 0 : Nat) : Int))) := hrow
  have HBy : Hid (∀ i, zs.getD i 0 ≤ 65535) := hby
  have HSt : Hid (∀ i, i < K → st i = if i < glen ∧ bs.getD i false = true then 2 else 0) := hst
  have HStK : Hid (∀ i, K ≤ i → st i = 0) := hstK
  clear hstK
  have HZ : Hid (zs.length = len) := hz
  clear hrow hby hgrow hst hz
  have hKe : (k : Int) + 1 = (K : Int) := by omega
  have hK0 : (0 : Int) ≤ (K : Int) := by omega
  have hK1 : 0 < K := by omega
  have hK2 : K ≤ 256 := by omega
  clear hK
  obtain ⟨w1, hm1, t1, b1, s1⟩ := make_tab w 37 40 (.pointer none) 8 K Yba.underlying37 (by kernel_rfl) rfl (by omega) (by omega)
  obtain ⟨w2, hm2, t2, b2, s2⟩ := make_tab w1 38 39 (.int .u8 0) 1 K Yba.underlying38 (by kernel_rfl) rfl (by omega) (by omega)
  have hn1 : N1 w w2 w.heap.size K 0 st := by
    rw [s1] at t2 s2 b2
    refine ⟨(t1.same (b2.block _ (by omega))).congr fun j hj => by simp, t2.congr fun j hj => by simp, fun j hj => by omega, by omega, b1.trans (b2.mono (by omega))⟩
  have HN1 : Hid _ := hn1
  rw [s1] at hm2
  clear t1 b1 s1 t2 b2 s2 hn1
  have l1 : (len : Int) ≤ 1024 := by omega
  have l2 : (glen : Int) ≤ 1024 := by omega
  go_enter Yba.func5, Yba.ntmps5
  go_wp2
  clear hm1 hm2 l1 l2
  obtain ⟨nb, hnb⟩ : ∃ nb, nb = w.heap.size := ⟨_, rfl⟩
  have HNb : Hid (nb = w.heap.size) := hnb
  rw [← hnb] at HN1 HRow HGRow ⊢
  clear hnb
  go_loopw [24] (fun iv wr => ∃ i : Nat, iv = .int .i64 (i : Int) ∧ i ≤ K ∧ N1 w wr nb K i st) (fun iv _ => K - (intOf iv).toNat)
  case atStart => exact ⟨0, rfl, Nat.zero_le _, HN1.out⟩
  case round =>
    clear HN1
    obtain ⟨i, rfl, hi, hN⟩ := hrel
    have HN : Hid _ := hN
    clear hN
    by_cases hlt : i < K
    · have hlt' : (i : Int) < (K : Int) := by omega
      have cs := HN.out.ts.cell hlt
      have fs := HN.out.ts.frozen i
      have cn := HN.out.tn.cell hlt
      have fn := HN.out.tn.frozen i
      have hsz := HN.out.sz
      simp only [Nat.lt_irrefl, if_false] at cs cn
      clear cn fn
      have hn1 : nb ≠ nb + 1 := by omega
      by_cases hg : i < glen
      · have hg' : (i : Int) < (glen : Int) := by omega
        obtain ⟨x, rfl, hxb, hxc⟩ := HGRow.out i hg
        have cx := (HN.out.bel.cell hxb).trans hxc
        clear hxc hxb
        cases hb : bs.getD i false with
        | true =>
          rw [hb] at cx
          have HS2 : Hid (2 = st i) := by show 2 = st i; rw [HSt.out i hlt, if_pos ⟨hg, hb⟩]
          clear hb
          have cn2 : ((wr.setCell ⟨nb + 1, i, none⟩ (.int .u8 2)).alloc (.cells #[.slice none 0 0, .int .i64 0, .int .u8 2, .int .u64 0, .int .u64 0] 43)).cell? ⟨nb, i, none⟩ = some (.pointer none) := (Tab.alloc (Tab.other HN.out.tn (a := ⟨nb + 1, i, none⟩) (by simp) _) _).cell hlt |>.trans (by simp)
          have fn2 : ((wr.setCell ⟨nb + 1, i, none⟩ (.int .u8 2)).alloc (.cells #[.slice none 0 0, .int .i64 0, .int .u8 2, .int .u64 0, .int .u64 0] 43)).frozen? ⟨nb, i, none⟩ = false := (Tab.alloc (Tab.other HN.out.tn (a := ⟨nb + 1, i, none⟩) (by simp) _) _).frozen i
          go_wp2
          go_roundw
          case rel => first | exact ⟨i + 1, by go_num, by omega, N1.step HN.out hlt 2 HS2.out _ rfl⟩ | ((repeat apply Exists.intro); exact ⟨⟨i + 1, by go_num, by omega, N1.step HN.out hlt 2 HS2.out _ rfl⟩, rfl⟩)
          case measure => simp [intOf]; omega
        | false =>
          rw [hb] at cx
          have HS2 : Hid (0 = st i) := by show 0 = st i; rw [HSt.out i hlt, if_neg (fun q => by rw [hb] at q; simp at q)]
          clear hb
          have cn2 : ((wr.setCell ⟨nb + 1, i, none⟩ (.int .u8 0)).alloc (.cells #[.slice none 0 0, .int .i64 0, .int .u8 0, .int .u64 0, .int .u64 0] 43)).cell? ⟨nb, i, none⟩ = some (.pointer none) := (Tab.alloc (Tab.other HN.out.tn (a := ⟨nb + 1, i, none⟩) (by simp) _) _).cell hlt |>.trans (by simp)
          have fn2 : ((wr.setCell ⟨nb + 1, i, none⟩ (.int .u8 0)).alloc (.cells #[.slice none 0 0, .int .i64 0, .int .u8 0, .int .u64 0, .int .u64 0] 43)).frozen? ⟨nb, i, none⟩ = false := (Tab.alloc (Tab.other HN.out.tn (a := ⟨nb + 1, i, none⟩) (by simp) _) _).frozen i
          go_wp2
          go_roundw
          case rel => first | exact ⟨i + 1, by go_num, by omega, N1.step HN.out hlt 0 HS2.out _ rfl⟩ | ((repeat apply Exists.intro); exact ⟨⟨i + 1, by go_num, by omega, N1.step HN.out hlt 0 HS2.out _ rfl⟩, rfl⟩)
          case measure => simp [intOf]; omega
      · have hg' : ¬ (i : Int) < (glen : Int) := by omega
        have HS2 : Hid (0 = st i) := by show 0 = st i; rw [HSt.out i hlt, if_neg (fun q => hg q.1)]
        have cn2 : ((wr.setCell ⟨nb + 1, i, none⟩ (.int .u8 0)).alloc (.cells #[.slice none 0 0, .int .i64 0, .int .u8 0, .int .u64 0, .int .u64 0] 43)).cell? ⟨nb, i, none⟩ = some (.pointer none) := (Tab.alloc (Tab.other HN.out.tn (a := ⟨nb + 1, i, none⟩) (by simp) _) _).cell hlt |>.trans (by simp)
        have fn2 : ((wr.setCell ⟨nb + 1, i, none⟩ (.int .u8 0)).alloc (.cells #[.slice none 0 0, .int .i64 0, .int .u8 0, .int .u64 0, .int .u64 0] 43)).frozen? ⟨nb, i, none⟩ = false := (Tab.alloc (Tab.other HN.out.tn (a := ⟨nb + 1, i, none⟩) (by simp) _) _).frozen i
        go_wp2
        go_roundw
        case rel => first | exact ⟨i + 1, by go_num, by omega, N1.step HN.out hlt 0 HS2.out _ rfl⟩ | ((repeat apply Exists.intro); exact ⟨⟨i + 1, by go_num, by omega, N1.step HN.out hlt 0 HS2.out _ rfl⟩, rfl⟩)
        case measure => simp [intOf]; omega
    · obtain rfl : K = i := by omega
      obtain ⟨w3, hm3, t3, b3, s3⟩ := make_tab wr 44 37 (.slice none 0 0) 24 K Yba.underlying44 (by kernel_rfl) rfl (by omega) (by omega)
      obtain ⟨w4, hm4, t4, b4, s4⟩ := make_tab w3 22 3 (.int .i64 0) 8 K Yba.underlying22 (by kernel_rfl) rfl (by omega) (by omega)
      have hsz := HN.out.sz
      obtain ⟨xb, hxb⟩ : ∃ xb, xb = nb + 2 + K := ⟨_, rfl⟩
      have hL : LMem w w4 nb K xb (fun _ => .slice none 0 0) (fun _ => []) (fun _ => 0) st (fun _ => 0) := by
        subst hxb
        exact LMem.start HN.out (by rw [hsz] at t3; exact t3) b3 (by omega) (by rw [s3, hsz] at t4; exact t4) b4 (by omega)
      have HL : Hid _ := hL
      have HXb : Hid (xb = nb + 2 + K) := hxb
      rw [hsz, ← hxb] at hm3
      rw [s3, hsz, ← hxb] at hm4
      clear t3 b3 s3 t4 b4 s4 hL hxb hsz
      go_wp2
      clear hm3 hm4
      go_loopw [98] (fun jv wz => ∃ (j : Nat) (rows : Rid → Value) (vals : Rid → List Value) (inn ei : Nat → Nat), jv = .int .i64 (j : Int) ∧ j ≤ len ∧ LMem w wz nb K xb rows vals inn st ei ∧ LRel nb K rows vals inn ei ((edgesOf K zs).take j)) (fun jv _ => len - (intOf jv).toNat)
      case atStart => exact ⟨0, _, _, _, _, rfl, Nat.zero_le _, HL.out, LRel.start _ _⟩
      case round =>
        clear HL HN
        obtain ⟨j, rows, vals, inn, ei, rfl, hj, hL, hR⟩ := hrel
        have HL : Hid _ := hL
        have HR : Hid _ := hR
        clear hL hR
        by_cases hjl : j < len
        · have hjl' : (j : Int) < (len : Int) := by omega
          obtain ⟨x, rfl, hxb, hxc⟩ := HRow.out j hjl
          have cx := (HL.out.bel.cell hxb).trans hxc
          have hze := HBy.out j
          have HZj : Hid (zs[j]? = some (zs.getD j 0)) := by
            show zs[j]? = some (zs.getD j 0)
            have := HZ.out
            rw [List.getD_eq_getElem?_getD, List.getElem?_eq_getElem (by omega)]; rfl
          clear hxc hxb
          generalize zs.getD j 0 = z at *
          obtain ⟨dl, sl, d, sn, n1, n2, n3, n4, n5, n6, n7, n8, n9, n10, n11⟩ := edge_num z K hze hK1
          have HEd : Hid ((edgesOf K zs).take (j + 1) = (edgesOf K zs).take j ++ [(sn, d)]) := by
            show (edgesOf K zs).take (j + 1) = (edgesOf K zs).take j ++ [(sn, d)]
            rw [List.take_add_one]
            congr 1
            unfold edgesOf
            rw [List.getElem?_map, HZj.out, n10, n11]; rfl
          have n8' : (d : Int) < (K : Int) := by omega
          have n9' : (sn : Int) < (K : Int) := by omega
          clear n10 n11 HZj hze
          have hEl : ((edgesOf K zs).take j).length ≤ 1024 := by rw [List.length_take]; omega
          have hv1 : (vals (ro sn)).length ≤ 100000 := by rw [HR.out.vo, List.length_map]; unfold outs; rw [List.length_map]; have := List.length_filter_le (fun e => e.1 == sn) ((edgesOf K zs).take j); omega
          have hv2 : (vals (rx sn)).length ≤ 100000 := by rw [HR.out.vx, List.length_map]; unfold outs; rw [List.length_map]; have := List.length_filter_le (fun e => e.1 == sn) ((edgesOf K zs).take j); omega
          have hv3 : inn d ≤ 1024 := by rw [HR.out.hin]; have := ins_le ((edgesOf K zs).take j) d; omega
          have hv4 : ei d ≤ 1024 := by rw [HR.out.hei]; have := ins_le ((edgesOf K zs).take j) d; omega
          have HLen : Hid ((vals (ro sn)).length ≤ 100000 ∧ (vals (rx sn)).length ≤ 100000) := ⟨hv1, hv2⟩
          clear hv1 hv2 hEl
          go_upto_region 21 with fail
          clear cx n1 n2 n3 n4 n5 n6 n7
          have hL1 := HL.out.drew
          obtain ⟨g1, cap1, v1, hrun1, hS1, hk1⟩ := append_run hL1.gr.sep (ro sn) (np (na0 nb) d) ⟨_, rfl⟩ HLen.out.1
          have HL2 : Hid _ := hL1.out n9 hS1 hk1
          have c1 := HL.out.tn.cell n9
          have c2 := HL.out.tn.cell n8
          have c3 := HL.out.gr.nodes.c0 n9
          have e1 := (Tab.alloc HL.out.tn (.cells #[np (na0 nb) d] 40)).cell n9
          have e2 := (Tab.alloc HL.out.tn (.cells #[np (na0 nb) d] 40)).cell n8
          have e3 := (HL.out.gr.alloc (.cells #[np (na0 nb) d] 40)).nodes.c0 n9
          have y1 := (hL1.tn.same (hk1.block nb (by have := HXb.out; omega))).cell n9
          have y3 := (hL1.gr.nodes.same (fun q hq => hk1.block _ (hL1.gr.inF q hq))).c0 n9
          have y4 := (hL1.gr.nodes.same (fun q hq => hk1.block _ (hL1.gr.inF q hq))).fz n9 0
          have HR1 : Hid (∀ ty, (Builtin.append_ #[37, 37] ty #[rows (ro sn), .slice (some ⟨wr.heap.size, 0, none⟩) 1 1]).run Yba.prog (wr.alloc (.cells #[.pointer (some ⟨na0 nb d, 0, none⟩)] 40)).drew = .ok (.slice (some ⟨g1, 0, none⟩) ((vals (ro sn)).length + 1) cap1) v1) := hrun1
          simp only [np] at c1 c2 c3 e1 e2 e3 y1 y3 y4
          have HStl : Hid (Still (fun b => b < xb + 2) wr.drew v1) := hk1
          clear hL1 hS1 hk1 hrun1
          have q1 : ¬ nb = na0 nb sn := by unfold na0; omega
          go_cut [] from 112 to 130 (fun wx => wx = v1.setCell ⟨na0 nb sn, 0, none⟩ (.slice (some ⟨g1, 0, none⟩) ((vals (ro sn)).length + 1) cap1))
          case first =>
            as_aux_lemma =>
              have hrx : (apX #[37, 37] #[rows (ro sn), .slice (some ⟨wr.heap.size, 0, none⟩) 1 1]).run Yba.prog (wr.alloc (.cells #[.pointer (some ⟨na0 nb d, 0, none⟩)] 40)).drew = .ok (.slice (some ⟨g1, 0, none⟩) ((vals (ro sn)).length + 1) cap1) v1 := HR1.out 0
              go_region
              all_goals
                go_wp2
                go_meet
                case rel => rfl
          case rest =>
            as_aux_lemma =>
              subst hcut
              clear c1 c2 c3 e1 e2 e3 y1 y3 y4 HR1 HStl q1
              have HL0 : Hid _ := HL2.out
              clear HL2 HL
              generalize v1.setCell ⟨na0 nb sn, 0, none⟩ (.slice (some ⟨g1, 0, none⟩) ((vals (ro sn)).length + 1) cap1) = W3 at *
              generalize Value.slice (some ⟨g1, 0, none⟩) ((vals (ro sn)).length + 1) cap1 = nv at *
              have c1 := HL0.out.tn.cell n8
              have c2 := HL0.out.gr.nodes.c1 n8
              have f2 := HL0.out.gr.nodes.fz n8 1
              have HL3 : Hid _ := HL0.out.setIn n8 (inn d + 1)
              simp only [np] at c1
              go_upto_region 23 with fail
              clear c1 c2 f2 HL0
              have e0 : ((inn d + 1 : Nat) : Int) = (inn d : Int) + 1 := by omega
              rw [e0] at HL3
              clear e0
              generalize W3.setCell ⟨na0 nb d, 1, none⟩ (.int .i64 ((inn d : Int) + 1)) = W4 at *
              have hL4 := HL3.out.drew
              obtain ⟨g5, cap5, v5, hrun5, hS5, hk5⟩ := append_run hL4.gr.sep (rx sn) (np (na0 nb) d) ⟨_, rfl⟩ (by rw [upr_xo]; exact HLen.out.2)
              have HL5 : Hid _ := hL4.exp n9 hS5 hk5
              have c1 := HL3.out.tn.cell n8
              have c3 := HL3.out.tx.cell n9
              have e3 := (Tab.alloc HL3.out.tx (.cells #[np (na0 nb) d] 40)).cell n9
              have y3 := (hL4.tx.same (hk5.block xb (by omega))).cell n9
              have y4 := (hL4.tx.same (hk5.block xb (by omega))).frozen sn
              simp only [np, upr_xo] at c1 c3 e3 y3 y4 hrun5 HL5
              have HR5 : Hid (∀ ty, (Builtin.append_ #[37, 37] ty #[rows (rx sn), .slice (some ⟨W4.heap.size, 0, none⟩) 1 1]).run Yba.prog (W4.alloc (.cells #[.pointer (some ⟨na0 nb d, 0, none⟩)] 40)).drew = .ok (.slice (some ⟨g5, 0, none⟩) ((vals (rx sn)).length + 1) cap5) v5) := hrun5
              clear hL4 hS5 hk5 hrun5 HL3
              go_cut [] from 141 to 153 (fun wx => wx = v5.setCell ⟨xb, sn, none⟩ (.slice (some ⟨g5, 0, none⟩) ((vals (rx sn)).length + 1) cap5))
              case first =>
                as_aux_lemma =>
                  have hrx : (apX #[37, 37] #[rows (rx sn), .slice (some ⟨W4.heap.size, 0, none⟩) 1 1]).run Yba.prog (W4.alloc (.cells #[.pointer (some ⟨na0 nb d, 0, none⟩)] 40)).drew = .ok (.slice (some ⟨g5, 0, none⟩) ((vals (rx sn)).length + 1) cap5) v5 := HR5.out 0
                  go_region
                  all_goals
                    go_wp2
                    go_meet
                    case rel => rfl
              case rest =>
                as_aux_lemma =>
                  subst hcut
                  clear c1 c3 e3 y3 y4 HR5
                  generalize v5.setCell ⟨xb, sn, none⟩ (.slice (some ⟨g5, 0, none⟩) ((vals (rx sn)).length + 1) cap5) = W6 at *
                  generalize Value.slice (some ⟨g5, 0, none⟩) ((vals (rx sn)).length + 1) cap5 = nv5 at *
                  have c1 := HL5.out.ti.cell n8
                  have f1 := HL5.out.ti.frozen d
                  have HL6 : Hid _ := HL5.out.expIn n8 (ei d + 1)
                  have HR6 : Hid _ := LRel.step (d := d) HR.out n9 nv nv5
                  clear HL5
                  go_wp2
                  go_roundw
                  case rel =>
                    have h1 := HL6.out
                    have h2 := HR6.out
                    first
                    | exact ⟨j + 1, _, _, _, _, by go_num, by omega, h1, by rw [HEd.out]; exact h2⟩
                    | ((repeat apply Exists.intro); exact ⟨⟨j + 1, _, _, _, _, by go_num, by omega, h1, by rw [HEd.out]; exact h2⟩, rfl⟩)
                  case measure => simp [intOf]; omega
        · obtain rfl : len = j := by omega
          have hE : (edgesOf K zs).take len = edgesOf K zs := List.take_of_length_le (by unfold edgesOf; rw [List.length_map, HZ.out]; exact Nat.le_refl _)
          rw [hE] at HR
          have HEn : Hid ((edgesOf K zs).length ≤ 1024) := by
            show (edgesOf K zs).length ≤ 1024
            unfold edgesOf
            rw [List.length_map, HZ.out]
            omega
          clear hE HGRow HRow hk hglen hjl
          obtain ⟨mw, hmw, hmw1⟩ := sel ws K
          obtain ⟨mv, hmv, hmv1⟩ := sel vs K
          obtain ⟨mt, hmt, hmt1⟩ := sel ts K
          obtain ⟨wn, hwn⟩ := pickW mw K he hmw1
          obtain ⟨vn, hvn⟩ := pickN mv K hmv1
          obtain ⟨tn, htn⟩ := pickN mt K hmt1
          have HWn : Hid ((wn = some mw ∧ he = true ∧ mw < K) ∨ (wn = none ∧ (he = false ∨ mw = K))) := hwn
          have HVn : Hid ((vn = some mv ∧ mv < K) ∨ (vn = none ∧ mv = K)) := hvn
          have HTn : Hid ((tn = some mt ∧ mt < K) ∨ (tn = none ∧ mt = K)) := htn
          clear hwn hvn htn
          go_upto_region 27 with fail
          clear hmw
          go_cut [172] from 166 to 172 (fun b wx => b = .bool wn.isNone ∧ wx = wr)
          case first =>
            as_aux_lemma =>
              rcases HWn.out with ⟨rfl, rfl, h⟩ | ⟨rfl, h⟩
              · have h1 : ((mw : Int) == (K : Int)) = false := by simp; omega
                go_wp2
                go_meet
                case rel => exact ⟨by simp, rfl⟩
              · by_cases h2 : mw = K
                · subst h2
                  go_wp2
                  go_meet
                  case rel => exact ⟨by simp, rfl⟩
                · have h1 : ((mw : Int) == (K : Int)) = false := by simp; omega
                  obtain rfl : he = false := by rcases h with h | h; exact h; exact absurd h h2
                  go_wp2
                  go_meet
                  case rel => exact ⟨by simp, rfl⟩
          case rest =>
            as_aux_lemma =>
              obtain ⟨rfl, hwx⟩ := hcut
              subst hwx
              go_upto_if 172 with fail
              go_cut [32] from 166 to 172 (fun v wx => v = .int .i64 (oi wn) ∧ wx = wc)
              case first =>
                as_aux_lemma =>
                  rcases HWn.out with ⟨rfl, rfl, h⟩ | ⟨rfl, h⟩
                  · go_wp2
                    go_meet
                    case rel => exact ⟨rfl, rfl⟩
                  · go_wp2
                    go_meet
                    case rel => exact ⟨rfl, rfl⟩
              case rest =>
                as_aux_lemma =>
                  obtain ⟨rfl, hwx⟩ := hcut
                  subst hwx
                  go_upto_if 180 with fail
                  clear hmv
                  go_cut [33] from 178 to 180 (fun v wx => v = .int .i64 (oi vn) ∧ wx = wc)
                  case first =>
                    as_aux_lemma =>
                      rcases HVn.out with ⟨rfl, h⟩ | ⟨rfl, h⟩
                      · have h1 : ((mv : Int) == (K : Int)) = false := by simp; omega
                        have h2 : ¬ (mv : Int) = (K : Int) := by omega
                        go_wp2
                        go_meet
                        case rel => exact ⟨rfl, rfl⟩
                      · have h1 : ((mv : Int) == (K : Int)) = true := by simp; omega
                        subst h
                        go_wp2
                        go_meet
                        case rel => exact ⟨rfl, rfl⟩
                  case rest =>
                    as_aux_lemma =>
                      obtain ⟨rfl, hwx⟩ := hcut
                      subst hwx
                      go_upto_if 188 with fail
                      clear hmt
                      go_cut [34] from 186 to 188 (fun v wx => v = .int .i64 (oi tn) ∧ wx = wc)
                      case first =>
                        as_aux_lemma =>
                          rcases HTn.out with ⟨rfl, h⟩ | ⟨rfl, h⟩
                          · have h1 : ((mt : Int) == (K : Int)) = false := by simp; omega
                            have h2 : ¬ (mt : Int) = (K : Int) := by omega
                            go_wp2
                            go_meet
                            case rel => exact ⟨rfl, rfl⟩
                          · have h1 : ((mt : Int) == (K : Int)) = true := by simp; omega
                            subst h
                            go_wp2
                            go_meet
                            case rel => exact ⟨rfl, rfl⟩
                      case rest =>
                        as_aux_lemma =>
                          obtain ⟨rfl, hwx⟩ := hcut
                          subst hwx
                          go_upto_if 190 with fail
                          go_cut [35] from 189 to 194 (fun v wx => v = op (na0 nb) wn ∧ wx = wc)
                          case first =>
                            as_aux_lemma =>
                              cases wn with
                              | none =>
                                simp only [oi_none]
                                go_wp2
                                go_meet
                                case rel => exact ⟨rfl, rfl⟩
                              | some x =>
                                have hx : x < K := by rcases HWn.out with h | h; (simp at h; omega); simp at h
                                have hx' : (x : Int) < (K : Int) := by omega
                                have cx := HL.out.tn.cell hx
                                simp only [np] at cx
                                simp only [oi_some]
                                go_wp2
                                go_meet
                                case rel => exact ⟨rfl, rfl⟩
                          case rest =>
                            as_aux_lemma =>
                              obtain ⟨rfl, hwx⟩ := hcut
                              subst hwx
                              go_upto_if 196 with fail
                              go_cut [36] from 195 to 200 (fun v wx => v = op (na0 nb) vn ∧ wx = wc)
                              case first =>
                                as_aux_lemma =>
                                  cases vn with
                                  | none =>
                                    simp only [oi_none]
                                    go_wp2
                                    go_meet
                                    case rel => exact ⟨rfl, rfl⟩
                                  | some x =>
                                    have hx : x < K := by rcases HVn.out with h | h; (simp at h; omega); simp at h
                                    have hx' : (x : Int) < (K : Int) := by omega
                                    have cx := HL.out.tn.cell hx
                                    simp only [np] at cx
                                    simp only [oi_some]
                                    go_wp2
                                    go_meet
                                    case rel => exact ⟨rfl, rfl⟩
                              case rest =>
                                as_aux_lemma =>
                                  obtain ⟨rfl, hwx⟩ := hcut
                                  subst hwx
                                  go_upto_if 202 with fail
                                  go_cut [37] from 201 to 206 (fun v wx => v = op (na0 nb) tn ∧ wx = wc)
                                  case first =>
                                    as_aux_lemma =>
                                      cases tn with
                                      | none =>
                                        simp only [oi_none]
                                        go_wp2
                                        go_meet
                                        case rel => exact ⟨rfl, rfl⟩
                                      | some x =>
                                        have hx : x < K := by rcases HTn.out with h | h; (simp at h; omega); simp at h
                                        have hx' : (x : Int) < (K : Int) := by omega
                                        have cx := HL.out.tn.cell hx
                                        simp only [np] at cx
                                        simp only [oi_some]
                                        go_wp2
                                        go_meet
                                        case rel => exact ⟨rfl, rfl⟩
                                  case rest =>
                                    as_aux_lemma =>
                                      obtain ⟨rfl, hwx⟩ := hcut
                                      subst hwx
                                      have hmm := run_makeMapS
                                      go_upto_region 43 with fail
                                      clear hmm
                                      obtain ⟨S0, hS0⟩ : ∃ S0, S0 = wc.heap.size := ⟨_, rfl⟩
                                      rw [← hS0]
                                      obtain ⟨W6, hW6⟩ : ∃ W6, W6 = ((wc.alloc (.map #[] 0)).alloc (.map #[] 0)).alloc (.cells #[.int .i32 0, .int .u32 0, .map (some S0), .map (some (S0 + 1)), .int .i64 0, .int .u64 0, .slice none 0 0, .slice none 0 0, .slice none 0 0, .slice none 0 0, .nilFunc] 61) := ⟨_, rfl⟩
                                      rw [← hW6]
                                      have h6 : P6 wc W6 S0 s := by
                                        subst hW6
                                        have s1 : (wc.alloc (.map #[] 0)).heap.size = S0 + 1 := by simp [hS0]
                                        have s2 : ((wc.alloc (.map #[] 0)).alloc (.map #[] 0)).heap.size = S0 + 1 + 1 := by simp [hS0]
                                        refine ⟨?_, ?_, Blk.new' _ _ _ _ (by simp [hS0]), ?_, by simp [hS0]⟩
                                        · rw [Below.heap_alloc _ _ _ (by omega), Below.heap_alloc _ _ _ (by omega), hS0]; exact heap_alloc_new wc _
                                        · rw [Below.heap_alloc _ _ _ (by omega), ← s1]; exact heap_alloc_new _ _
                                        · exact ⟨rfl, rfl, rfl, by simp; omega, fun b hb => by rw [Below.heap_alloc _ _ _ (by omega), Below.heap_alloc _ _ _ (by omega), Below.heap_alloc _ _ _ (by omega)]⟩
                                      have H6 : Hid _ := h6
                                      have HS0 : Hid (S0 = wc.heap.size) := hS0
                                      clear hW6 hS0 h6
                                      obtain ⟨W5, hW5⟩ : ∃ W5, W5 = wc := ⟨_, rfl⟩
                                      rw [← hW5] at HL H6 HS0
                                      clear hW5
                                      have c0 := (HL.out.tn.same (H6.out.st.block nb (by rw [HS0.out]; exact HL.out.tn.lt))).cell hK1
                                      simp only [np] at c0
                                      go_upto_if 211 with fail
                                      go_cut [39] from 211 to 228 (fun v39 wx => ∃ eb rdv ra_ rc ci, v39 = ep eb he ∧ PE W5 wx S0 s he rd (op (na0 nb) wn) eb rdv ra_ rc ci none 0)
                                      case first =>
                                        as_aux_lemma =>
                                          cases he with
                                          | false =>
                                            go_wp2
                                            go_meet
                                            case rel => exact ⟨0, .slice none (if rd then 1 else 0) 0, none, 0, 0, rfl, rfl, (fun q => by simp at q), H6.out.mi, H6.out.mp, H6.out.bp, H6.out.st, by rw [H6.out.sz]; omega⟩
                                          | true =>
                                            have hsz := H6.out.sz
                                            cases rd with
                                            | false =>
                                              cases wn with
                                              | none =>
                                                obtain ⟨d2, hu, hpe⟩ := made0 H6.out (.pointer none)
                                                have HPE : Hid _ := hpe
                                                clear hpe
                                                simp only [op_none]
                                                go_wp2
                                                go_meet
                                                case rel => exact ⟨_, _, _, _, _, rfl, HPE.out⟩
                                              | some x =>
                                                obtain ⟨d2, hu, hpe⟩ := made0 H6.out (.pointer (some ⟨na0 nb x, 0, none⟩))
                                                have HPE : Hid _ := hpe
                                                clear hpe
                                                simp only [op_some, np]
                                                go_wp2
                                                go_meet
                                                case rel => exact ⟨_, _, _, _, _, rfl, HPE.out⟩
                                            | true =>
                                              cases wn with
                                              | none =>
                                                obtain ⟨q0, d2, hu, hpe⟩ := made1 H6.out (.pointer none) (.pointer (some ⟨na0 nb 0, 0, none⟩)) _ (by rw [HS0.out]; exact HL.out.tn.lt) c0
                                                have HPE : Hid _ := hpe
                                                clear hpe
                                                simp only [op_none]
                                                go_wp2
                                                go_meet
                                                case rel => exact ⟨_, _, _, _, _, rfl, HPE.out⟩
                                              | some x =>
                                                obtain ⟨q0, d2, hu, hpe⟩ := made1 H6.out (.pointer (some ⟨na0 nb x, 0, none⟩)) (.pointer (some ⟨na0 nb 0, 0, none⟩)) _ (by rw [HS0.out]; exact HL.out.tn.lt) c0
                                                have HPE : Hid _ := hpe
                                                clear hpe
                                                simp only [op_some, np]
                                                go_wp2
                                                go_meet
                                                case rel => exact ⟨_, _, _, _, _, rfl, HPE.out⟩
                                      case rest =>
                                        as_aux_lemma =>
                                          obtain ⟨eb, rdv, ra_, rc, ci, rfl, hPE⟩ := hcut
                                          have HPE : Hid _ := hPE
                                          clear hPE c0 H6
                                          have hne := neq_nil (na0 nb)
                                          have heq := eql_nil (na0 nb)
                                          have hg1 := guard_op (na0 nb)
                                          go_upto_if 230 with fail
                                          go_cut [] from 229 to 236 (fun wx => ∃ cp, PE W5 wx S0 s he rd (op (na0 nb) wn) eb rdv ra_ rc ci (vn.map (np (na0 nb))) cp)
                                          case first =>
                                            as_aux_lemma =>
                                              cases vn with
                                              | none =>
                                                go_wp2
                                                go_meet
                                                case rel => exact ⟨0, HPE.out⟩
                                              | some v =>
                                                have d3 := HPE.out.bp.cell 3 (.map (some (S0 + 1))) rfl
                                                have hu := updS Yba.underlying49 HPE.out.hmp (.pointer (some ⟨na0 nb v, 0, none⟩))
                                                have HPE2 : Hid _ := HPE.out.prep (.pointer (some ⟨na0 nb v, 0, none⟩))
                                                simp only [op_some, np]
                                                go_wp2
                                                go_meet
                                                case rel => exact ⟨1, HPE2.out⟩
                                          case rest =>
                                            as_aux_lemma =>
                                              obtain ⟨cp, hPE2⟩ := hcut
                                              have HPE2 : Hid _ := hPE2
                                              clear hPE2 HPE
                                              have hsz2 := HPE2.out.sz
                                              obtain ⟨tb, htb⟩ : ∃ tb, tb = wc.heap.size := ⟨_, rfl⟩
                                              have HTB : Hid (tb = wc.heap.size) := htb
                                              clear htb
                                              go_upto_region 52 with fail
                                              rw [← HTB.out]
                                              obtain ⟨W9, hW9⟩ : ∃ W9, W9 = wc.alloc (.cells (tc (.pointer none)) 86) := ⟨_, rfl⟩
                                              have h9 : PE W5 W9 S0 s he rd (op (na0 nb) wn) eb rdv ra_ rc ci (vn.map (np (na0 nb))) cp ∧ Blk W9 tb (tc (.pointer none)) 86 ∧ S0 + 1 + 1 < tb ∧ (he = true → eb < tb) ∧ W9.heap.size = tb + 1 := by
                                                subst hW9
                                                have htb := HTB.out
                                                exact ⟨HPE2.out.later ⟨rfl, rfl, rfl, by simp, fun b hb => Below.heap_alloc _ _ _ hb⟩ (by omega), Blk.new' _ _ _ _ htb, by omega, fun q => by have := (HPE2.out.be q).2.1; omega, by simp [htb]⟩
                                              have H9 : Hid _ := h9
                                              simp only [tc] at hW9
                                              rw [← hW9]
                                              clear hW9 h9 HTB HPE2 hsz2
                                              go_cut [] from 239 to 243 (fun wx => PE W5 wx S0 s he rd (op (na0 nb) wn) eb rdv ra_ rc ci (vn.map (np (na0 nb))) cp ∧ Blk wx tb (tc (op (na0 nb) tn)) 86 ∧ wx.heap.size = tb + 1)
                                              case first =>
                                                as_aux_lemma =>
                                                  have t12 := H9.out.2.1.cell 12 (.pointer none) rfl
                                                  have g12 := H9.out.2.1.frozen 12
                                                  cases tn with
                                                  | none =>
                                                    simp only [op_none]
                                                    go_wp2
                                                    go_meet
                                                    case rel => exact PE.node H9.out.1 H9.out.2.1 H9.out.2.2.1 H9.out.2.2.2.1 H9.out.2.2.2.2 _
                                                  | some n =>
                                                    simp only [op_some, np]
                                                    go_wp2
                                                    go_meet
                                                    case rel => exact PE.node H9.out.1 H9.out.2.1 H9.out.2.2.1 H9.out.2.2.2.1 H9.out.2.2.2.2 _
                                              case rest =>
                                                as_aux_lemma =>
                                                  obtain ⟨hPE3, hbt3, hsz3⟩ := hcut
                                                  have HPE3 : Hid _ := hPE3
                                                  have HBt3 : Hid (Blk wc tb (tc (op (na0 nb) tn)) 86) := hbt3
                                                  have HTb : Hid (S0 + 1 + 1 < tb ∧ (he = true → eb < tb)) := ⟨H9.out.2.2.1, H9.out.2.2.2.1⟩
                                                  clear hPE3 hbt3 H9
                                                  go_upto_region 55 with fail
                                                  obtain ⟨W10, hW10⟩ : ∃ W10, W10 = wc.alloc (.cells (ic s fl) 97) := ⟨_, rfl⟩
                                                  have hq : QS W5 W10 S0 s he rd (op (na0 nb) wn) eb rdv ra_ rc ci (vn.map (np (na0 nb))) cp tb (op (na0 nb) tn) fl := by
                                                    subst hW10
                                                    exact QS.start HPE3.out HBt3.out HTb.out hsz3
                                                  have HQ : Hid _ := hq
                                                  simp only [ic] at hW10
                                                  rw [← hW10]
                                                  clear hW10 hq HPE3 HBt3 HTb hsz3
                                                  have HTs : Hid (Tab W10 (nb + 1) 39 K (fun j => .int .u8 (st j : Int))) := HL.out.ts.same (HQ.out.pe.st.block _ (by have := HL.out.ts.lt; have := HS0.out; omega))
                                                  go_cut [257] from 249 to 257 (fun b wx => b = .bool (wn.isSome && (live st wn).isNone) ∧ wx = W10)
                                                  case first =>
                                                    as_aux_lemma =>
                                                      cases wn with
                                                      | none =>
                                                        simp only [op_none]
                                                        go_wp2
                                                        go_meet
                                                        case rel => exact ⟨rfl, rfl⟩
                                                      | some x =>
                                                        have hx : x < K := by rcases HWn.out with h | h; (simp at h; omega); simp at h
                                                        have hx' : (x : Int) < (K : Int) := by omega
                                                        have cx := HTs.out.cell hx
                                                        have hge := gone_eq st x
                                                        have hli := live_isNone st x
                                                        have HLi : Hid _ := hli
                                                        clear hli
                                                        simp only [oi_some, op_some, np]
                                                        go_wp2
                                                        go_meet
                                                        case rel => exact ⟨by rw [HLi.out]; simp, rfl⟩
                                                  case rest =>
                                                    as_aux_lemma =>
                                                      obtain ⟨rfl, hwx⟩ := hcut
                                                      subst hwx
                                                      go_upto_if 257 with fail
                                                      go_cut [42] from 249 to 257 (fun v wx => v = op (na0 nb) (live st wn) ∧ wx = wc)
                                                      case first =>
                                                        as_aux_lemma =>
                                                          cases wn with
                                                          | none =>
                                                            simp only [Option.isSome_none, Bool.false_and]
                                                            go_wp2
                                                            go_meet
                                                            case rel => exact ⟨rfl, rfl⟩
                                                          | some x =>
                                                            by_cases e : st x = 2
                                                            · have hlv : live st (some x) = none := by simp [live, e]
                                                              have HLv : Hid _ := hlv
                                                              simp only [hlv, Option.isSome_some, Option.isNone_none, Bool.true_and]
                                                              clear e hlv
                                                              go_wp2
                                                              go_meet
                                                              case rel => exact ⟨by rw [HLv.out]; rfl, rfl⟩
                                                            · have hlv : live st (some x) = some x := by simp [live, e]
                                                              have HLv : Hid _ := hlv
                                                              simp only [hlv, Option.isSome_some, Option.isNone_some, Bool.true_and]
                                                              clear e hlv
                                                              go_wp2
                                                              go_meet
                                                              case rel => exact ⟨by rw [HLv.out], rfl⟩
                                                      case rest =>
                                                        as_aux_lemma =>
                                                          obtain ⟨rfl, hwx⟩ := hcut
                                                          subst hwx
                                                          go_upto_region 59 with fail
                                                          go_cut [42, 263] from 258 to 263 (fun v b wx => v = op (na0 nb) (live st wn) ∧ b = .bool ((live st wn).isSome || vn.isSome) ∧ wx = wc)
                                                          case first =>
                                                            as_aux_lemma =>
                                                              cases hl : live st wn with
                                                              | none =>
                                                                go_wp2
                                                                go_meet
                                                                case rel => exact ⟨by rw [hl], by rw [hl]; simp, rfl⟩
                                                              | some x =>
                                                                go_wp2
                                                                go_meet
                                                                case rel => exact ⟨by rw [hl], by rw [hl]; simp, rfl⟩
                                                          case rest =>
                                                            as_aux_lemma =>
                                                              obtain ⟨rfl, rfl, hwx⟩ := hcut
                                                              subst hwx
                                                              go_upto_if 263 with fail
                                                              obtain ⟨S1, hS1⟩ : ∃ S1, S1 = wc.heap.size := ⟨_, rfl⟩
                                                              have HS1 : Hid (S1 = wc.heap.size) := hS1
                                                              clear hS1
                                                              obtain ⟨W12, hW12⟩ : ∃ W12, W12 = wc := ⟨_, rfl⟩
                                                              subst hW12
                                                              have HBw : Hid (∀ wx, Still (fun b => b < S1) W12 wx → Below nb w wx) := fun wx hx => by
                                                                have h1 := HQ.out.pe.st.below (B := nb) (fun b hb => by have := HL.out.tn.lt; have := HS0.out; omega)
                                                                have h2 := hx.below (B := nb) (fun b hb => by have := HL.out.tn.lt; have := HS0.out; have := HS1.out; have := HQ.out.pe.sz; omega)
                                                                exact HL.out.bel.trans (h1.trans h2)
                                                              go_cut [43, 44, 45, 46] from 258 to 301 (fun a b _ _ wx => ∃ bad lk, a = .bool (!bad) ∧ b = .bool lk ∧ lk = ((live st wn).isSome && !bad || vn.isSome && !bad) ∧ (bad = true ↔ Bad (edgesOf K zs) (live st wn) vn tn) ∧ Still (fun b => b < S1) W12 wx)
                                                              case first =>
                                                                as_aux_lemma =>
                                                                  cases hor : ((live st wn).isSome || vn.isSome) with
                                                                  | false =>
                                                                    go_wp2
                                                                    go_meet
                                                                    case rel =>
                                                                      have h1 : (live st wn).isSome = false ∧ vn.isSome = false := by simpa using hor
                                                                      refine ⟨false, false, rfl, rfl, by rw [h1.1, h1.2]; rfl, ⟨fun q => by simp at q, fun q => ?_⟩, Still.refl _ _⟩
                                                                      rcases q.1 with q | q
                                                                      · rw [h1.1] at q; simp at q
                                                                      · rw [h1.2] at q; simp at q
                                                                  | true =>
                                                                    have HOr : Hid ((live st wn).isSome = true ∨ vn.isSome = true) := by
                                                                      show (live st wn).isSome = true ∨ vn.isSome = true
                                                                      simpa using hor
                                                                    clear hor
                                                                    obtain ⟨w11, hm11, t11, b11, s11⟩ := make_tab W12 36 4 (.bool false) 1 K Yba.underlying36 (by kernel_rfl) rfl (by omega) (by omega)
                                                                    have HA0 : Hid (AM W12 w11 S1 K (fun _ => false)) := by
                                                                      rw [← HS1.out] at t11 b11
                                                                      exact ⟨t11, b11.os, b11.tape, b11.output, b11.size, b11.block⟩
                                                                    rw [← HS1.out] at hm11
                                                                    clear t11 b11 s11
                                                                    go_upto_if 267 with fail
                                                                    clear hm11
                                                                    go_cut [42] from 266 to 270 (fun v42 wx => v42 = op (na0 nb) (live st wn) ∧ AM W12 wx S1 K (fun x => decide (live st wn = some x)))
                                                                    case first =>
                                                                      as_aux_lemma =>
                                                                        cases hl : live st wn with
                                                                        | none =>
                                                                          go_wp2
                                                                          go_meet
                                                                          case rel => exact ⟨by rw [hl], HA0.out.congr (by rw [hl]; funext x; simp)⟩
                                                                        | some x =>
                                                                          have hwn := live_some hl
                                                                          subst hwn
                                                                          have hx : x < K := by rcases HWn.out with h | h; (simp at h; omega); simp at h
                                                                          have hx' : (x : Int) < (K : Int) := by omega
                                                                          have cx := HA0.out.tab.cell hx
                                                                          have fx := HA0.out.tab.frozen x
                                                                          have HA1 : Hid _ := HA0.out.set x
                                                                          simp only [oi_some]
                                                                          go_wp2
                                                                          go_meet
                                                                          case rel => exact ⟨by rw [hl], HA1.out.congr (by rw [hl]; exact (aim_one x).symm)⟩
                                                                    case rest =>
                                                                      as_aux_lemma =>
                                                                        obtain ⟨rfl, hA1⟩ := hcut
                                                                        have HA1 : Hid _ := hA1
                                                                        clear hA1 HA0
                                                                        go_upto_region 63 with fail
                                                                        go_cut [276] from 271 to 276 (fun b wx => b = .bool (vn.isSome && tn.isSome) ∧ wx = wc)
                                                                        case first =>
                                                                          as_aux_lemma =>
                                                                            cases vn with
                                                                            | none =>
                                                                              go_wp2
                                                                              go_meet
                                                                              case rel => exact ⟨rfl, rfl⟩
                                                                            | some v =>
                                                                              cases tn with
                                                                              | none =>
                                                                                simp only [oi_none]
                                                                                go_wp2
                                                                                go_meet
                                                                                case rel => exact ⟨rfl, rfl⟩
                                                                              | some n =>
                                                                                simp only [oi_some]
                                                                                go_wp2
                                                                                go_meet
                                                                                case rel => exact ⟨rfl, rfl⟩
                                                                        case rest =>
                                                                          as_aux_lemma =>
                                                                            obtain ⟨rfl, hwx⟩ := hcut
                                                                            subst hwx
                                                                            go_upto_if 276 with fail
                                                                            go_cut [] from 271 to 279 (fun wx => AM W12 wx S1 K (aimF (live st wn) vn tn))
                                                                            case first =>
                                                                              as_aux_lemma =>
                                                                                cases vn with
                                                                                | none =>
                                                                                  simp only [Option.isSome_none, Bool.false_and]
                                                                                  go_wp2
                                                                                  go_meet
                                                                                  case rel => exact HA1.out.congr (aim_none _ _).symm
                                                                                | some v =>
                                                                                  cases tn with
                                                                                  | none =>
                                                                                    simp only [Option.isSome_none, Bool.and_false]
                                                                                    go_wp2
                                                                                    go_meet
                                                                                    case rel => exact HA1.out.congr (aim_some0 _ _).symm
                                                                                  | some n =>
                                                                                    have hx : n < K := by rcases HTn.out with h | h; (simp at h; omega); simp at h
                                                                                    have hx' : (n : Int) < (K : Int) := by omega
                                                                                    have cx := HA1.out.tab.cell hx
                                                                                    have fx := HA1.out.tab.frozen n
                                                                                    have HA2 : Hid _ := HA1.out.set n
                                                                                    simp only [Option.isSome_some, Bool.and_self, oi_some]
                                                                                    go_wp2
                                                                                    go_meet
                                                                                    case rel => exact HA2.out.congr (aim_some1 _ _ _).symm
                                                                            case rest =>
                                                                              as_aux_lemma =>
                                                                                have HA2 : Hid _ := hcut
                                                                                clear hcut HA1
                                                                                go_upto_if 281 with fail
                                                                                go_cut [46] from 280 to 286 (fun v46 wx => ∃ f1, v46 = .bool f1 ∧ (f1 = true ↔ ∃ n, tn = some n ∧ Hit (edgesOf K zs) (fun x => aimF (live st wn) vn tn x = true) (fun u => u = n)) ∧ AM W12 wx S1 K (aimF (live st wn) vn tn))
                                                                                case first =>
                                                                                  as_aux_lemma =>
                                                                                    cases tn with
                                                                                    | none =>
                                                                                      simp only [oi_none]
                                                                                      go_wp2
                                                                                      go_meet
                                                                                      case rel => exact ⟨false, rfl, ⟨fun q => by simp at q, fun q => by obtain ⟨n, h1, _⟩ := q; simp at h1⟩, HA2.out⟩
                                                                                    | some n =>
                                                                                      have hx : n < K := by rcases HTn.out with h | h; (simp at h; omega); simp at h
                                                                                      have hbr := breach_any K len cap K n S1 a zs false (aimF (live st wn) vn (some n)) wc hK1 hK2 hx HZ.out hlen (row_later HNb.out HRow0.out (HBw.out _ HA2.out.st)) HBy.out HA2.out.tab
                                                                                      have HBr : Hid _ := hbr
                                                                                      clear hbr
                                                                                      simp only [oi_some]
                                                                                      go_wp2_with (go_at_call 10; refine Calls.mono HBr.out ?_; rintro e w' ⟨⟨r, rfl, hr⟩, hbel⟩)
                                                                                      go_meet
                                                                                      case rel =>
                                                                                        refine ⟨_, rfl, hr.trans ⟨fun q => ?_, fun q => ?_⟩, HA2.out.later hbel⟩
                                                                                        · rcases q with q | q
                                                                                          · simp at q
                                                                                          · exact ⟨n, rfl, q⟩
                                                                                        · obtain ⟨m, h1, h2⟩ := q
                                                                                          simp at h1
                                                                                          subst h1
                                                                                          exact .inr h2
                                                                                case rest =>
                                                                                  as_aux_lemma =>
                                                                                    obtain ⟨f1, rfl, hf1, hA3⟩ := hcut
                                                                                    have HF1 : Hid (f1 = true ↔ ∃ n, tn = some n ∧ Hit (edgesOf K zs) (fun x => aimF (live st wn) vn tn x = true) (fun u => u = n)) := hf1
                                                                                    have HA3 : Hid _ := hA3
                                                                                    clear hf1 hA3 HA2
                                                                                    go_upto_region 68 with fail
                                                                                    go_cut [292] from 287 to 292 (fun b wx => b = .bool (!f1 && vn.isSome) ∧ wx = wc)
                                                                                    case first =>
                                                                                      as_aux_lemma =>
                                                                                        cases f1 with
                                                                                        | true =>
                                                                                          go_wp2
                                                                                          go_meet
                                                                                          case rel => exact ⟨rfl, rfl⟩
                                                                                        | false =>
                                                                                          cases vn with
                                                                                          | none =>
                                                                                            simp only [oi_none]
                                                                                            go_wp2
                                                                                            go_meet
                                                                                            case rel => exact ⟨rfl, rfl⟩
                                                                                          | some v =>
                                                                                            simp only [oi_some]
                                                                                            go_wp2
                                                                                            go_meet
                                                                                            case rel => exact ⟨rfl, rfl⟩
                                                                                    case rest =>
                                                                                      as_aux_lemma =>
                                                                                        obtain ⟨rfl, hwx⟩ := hcut
                                                                                        subst hwx
                                                                                        go_upto_if 292 with fail
                                                                                        go_cut [46] from 287 to 297 (fun v46 wx => ∃ bad, v46 = .bool bad ∧ (bad = true ↔ Bad (edgesOf K zs) (live st wn) vn tn) ∧ Still (fun b => b < S1) W12 wx)
                                                                                        case first =>
                                                                                          as_aux_lemma =>
                                                                                            cases f1 with
                                                                                            | true =>
                                                                                              simp only [Bool.not_true, Bool.false_and]
                                                                                              go_wp2
                                                                                              go_meet
                                                                                              case rel =>
                                                                                                refine ⟨true, rfl, ⟨fun _ => ⟨HOr.out, .inr ?_⟩, fun _ => rfl⟩, HA3.out.st⟩
                                                                                                have hf := HF1.out
                                                                                                simp only [true_iff] at hf
                                                                                                obtain ⟨n, h1, u, d, v, h2, h3⟩ := hf
                                                                                                exact ⟨u, d, v, .inl (by rw [h1, h2]), h3⟩
                                                                                            | false =>
                                                                                              have hnf : ¬ ∃ n, tn = some n ∧ Hit (edgesOf K zs) (fun x => aimF (live st wn) vn tn x = true) (fun u => u = n) := fun q => by have := HF1.out.2 q; simp at this
                                                                                              have HNf : Hid _ := hnf
                                                                                              clear hnf
                                                                                              cases vn with
                                                                                              | none =>
                                                                                                simp only [Option.isSome_none, Bool.and_false]
                                                                                                go_wp2
                                                                                                go_meet
                                                                                                case rel =>
                                                                                                  refine ⟨false, rfl, ⟨fun q => by simp at q, fun q => ?_⟩, HA3.out.st⟩
                                                                                                  rcases q.2 with ⟨v, h1, _⟩ | ⟨u, d, v, h1, h2⟩
                                                                                                  · simp at h1
                                                                                                  · rcases h1 with h1 | h1
                                                                                                    · exact absurd ⟨u, h1, u, d, v, rfl, h2⟩ HNf.out
                                                                                                    · simp at h1
                                                                                              | some v =>
                                                                                                have hx : v < K := by rcases HVn.out with h | h; (simp at h; omega); simp at h
                                                                                                have hbr := breach_any K len cap K v S1 a zs true (aimF (live st wn) (some v) tn) wc hK1 hK2 hx HZ.out hlen (row_later HNb.out HRow0.out (HBw.out _ HA3.out.st)) HBy.out HA3.out.tab
                                                                                                have HBr : Hid _ := hbr
                                                                                                clear hbr
                                                                                                simp only [oi_some, Bool.not_false, Option.isSome_some, Bool.and_self]
                                                                                                go_wp2_with (go_at_call 10; refine Calls.mono HBr.out ?_; rintro e w' ⟨⟨r, rfl, hr⟩, hbel⟩)
                                                                                                go_meet
                                                                                                case rel =>
                                                                                                  refine ⟨_, rfl, hr.trans ⟨fun q => ⟨HOr.out, ?_⟩, fun q => ?_⟩, (HA3.out.later hbel).st⟩
                                                                                                  · rcases q with q | ⟨u, d, x, h2, h3⟩
                                                                                                    · exact .inl ⟨v, rfl, q.2⟩
                                                                                                    · exact .inr ⟨u, d, x, .inr (by rw [h2]), h3⟩
                                                                                                  · rcases q.2 with ⟨x, h1, h2⟩ | ⟨u, d, x, h1, h2⟩
                                                                                                    · simp at h1
                                                                                                      subst h1
                                                                                                      exact .inl (by first | exact ⟨rfl, h2⟩ | exact ⟨trivial, h2⟩)
                                                                                                    · rcases h1 with h1 | h1
                                                                                                      · exact absurd ⟨u, h1, u, d, x, rfl, h2⟩ HNf.out
                                                                                                      · simp at h1
                                                                                                        exact .inr ⟨u, d, x, h1.symm, h2⟩
                                                                                        case rest =>
                                                                                          as_aux_lemma =>
                                                                                            obtain ⟨bad, rfl, hbad, hst12⟩ := hcut
                                                                                            have HBd : Hid _ := hbad
                                                                                            have HS12 : Hid _ := hst12
                                                                                            clear hbad hst12
                                                                                            go_wp2
                                                                                            go_meet
                                                                                            case rel => exact ⟨bad, !bad, rfl, rfl, by cases bad <;> rcases HOr.out with h | h <;> simp [h], HBd.out, HS12.out⟩
                                                              case rest =>
                                                                as_aux_lemma =>
                                                                  obtain ⟨bad, lk, rfl, rfl, hlk, hbad, hst12⟩ := hcut
                                                                  have HLk : Hid (lk = ((live st wn).isSome && !bad || vn.isSome && !bad)) := hlk
                                                                  clear hlk
                                                                  have HBad : Hid (bad = true ↔ Bad (edgesOf K zs) (live st wn) vn tn) := hbad
                                                                  obtain ⟨fl', hfl'⟩ : ∃ fl' : Nat, bits BinOp.andNot IntKind.u8 (fl : Int) 2 = (fl' : Int) := ⟨_, andNot2 ⟨fl, by omega⟩⟩
                                                                  have hpre := pre_of (fl' := fl') HL.out HR.out HS0.out HS1.out HQ.out hst12 (fun q => by rcases HWn.out with h | h; (rw [q] at h; simp at h); exact h.1) (fun i hi => by rcases HWn.out with h | h; (rw [hi] at h; simp at h; omega); (rw [hi] at h; simp at h)) (fun i hi => by rcases HVn.out with h | h; (rw [hi] at h; simp at h; omega); (rw [hi] at h; simp at h)) (fun i hi => by rcases HTn.out with h | h; (rw [hi] at h; simp at h; omega); (rw [hi] at h; simp at h)) (fun i => by by_cases e : i < K; (rw [HSt.out i e]; split <;> omega); (rw [HStK.out i (by omega)]; omega)) (HStK.out K (Nat.le_refl _)) hfl' hK1 hK2 HEn.out
                                                                  have HPre : Hid _ := hpre
                                                                  have hrd := read_any hpre
                                                                  have HRd : Hid _ := hrd
                                                                  have HS13 : Hid (Still (fun b => b < S1) W12 wc) := hst12
                                                                  clear hbad hst12 hpre hrd
                                                                  go_upto_region 73 with (go_at_call 11; refine Calls.mono HRd.out ?_; rintro e w' hpost; obtain ⟨bad2, rfl, hb2, tv, sr, stk, ci', hG, hM⟩ := hpost.ans)
                                                                  have hbb : bad2 = bad := by
                                                                    have h1 := hb2.trans HBad.out.symm
                                                                    cases bad2 <;> cases bad <;> simp_all
                                                                  subst hbb
                                                                  rw [← HLk.out] at hG
                                                                  have HG : Hid _ := hG
                                                                  have HM : Hid _ := hM
                                                                  have HStl : Hid _ := hpost.still
                                                                  clear hG hM hpost hb2 HRd
                                                                  obtain ⟨W13, hW13⟩ : ∃ W13, W13 = wc := ⟨_, rfl⟩
                                                                  subst hW13
                                                                  go_upto_if 310 with fail
                                                                  go_cut [42] from 309 to 323 (fun v wx => v = op (na0 nb) (live st wn) ∧ wx = w')
                                                                  case first =>
                                                                    as_aux_lemma =>
                                                                      have i9 := HM.out.bi.cell 9 (.int .u8 ((if (live st wn).isSome then fl else fl' : Nat) : Int)) rfl
                                                                      cases hl : live st wn with
                                                                      | none =>
                                                                        rw [hl] at i9
                                                                        simp only [Option.isSome_none, Bool.false_eq_true, if_false] at i9
                                                                        go_wp2
                                                                        go_meet
                                                                        case rel => exact ⟨by rw [hl], rfl⟩
                                                                      | some x =>
                                                                        rw [hl] at i9
                                                                        simp only [Option.isSome_some, if_true] at i9
                                                                        go_wp2
                                                                        go_meet
                                                                        case rel => exact ⟨by rw [hl], rfl⟩
                                                                  case rest =>
                                                                    as_aux_lemma =>
                                                                      obtain ⟨rfl, hwx⟩ := hcut
                                                                      subst hwx
                                                                      go_upto_if 324 with fail
                                                                      go_cut [42] from 324 to 384 (fun v wx => v = op (na0 nb) (live st wn) ∧ wx = wc)
                                                                      case first =>
                                                                        as_aux_lemma =>
                                                                          have c2 := HM.out.bp.cell 2 (.map (some S0)) rfl
                                                                          have hmi := HM.out.hmi
                                                                          have hg2 := guard_ep eb he
                                                                          cases he with
                                                                          | false =>
                                                                            simp only [Bool.false_and, Bool.false_eq_true, if_false] at hmi
                                                                            have hln := lenS Yba.underlying48 hmi
                                                                            simp only [Option.isSome_none, Bool.false_eq_true, if_false] at hln
                                                                            clear hmi
                                                                            go_wp2
                                                                            go_meet
                                                                            case rel => exact ⟨rfl, rfl⟩
                                                                          | true =>
                                                                            have e0 := (HM.out.be rfl).cell 0 (op (na0 nb) (live st wn)) rfl
                                                                            have h62 := neq62_same eb
                                                                            have hns := neq_self (na0 nb)
                                                                            cases hl : live st wn with
                                                                            | none =>
                                                                              rw [hl] at hmi e0
                                                                              cases rd with
                                                                              | false =>
                                                                                simp only [Option.isSome_none, Bool.or_self, Bool.and_false, Bool.false_eq_true, if_false] at hmi
                                                                                have hln := lenS Yba.underlying48 hmi
                                                                                simp only [Option.isSome_none, Bool.false_eq_true, if_false] at hln
                                                                                clear hmi
                                                                                have HEp : Hid (ep eb true = .pointer (some ⟨eb, 0, none⟩)) := rfl
                                                                                rw [HEp.out] at hg2 h62 ⊢
                                                                                go_wp2
                                                                                go_meet
                                                                                case rel => exact ⟨by rw [hl], rfl⟩
                                                                              | true =>
                                                                                simp only [Option.isSome_none, Bool.false_or, Bool.and_self, if_true] at hmi
                                                                                have hln := lenS Yba.underlying48 hmi
                                                                                have hlk := lookS Yba.underlying48 zero62 hmi
                                                                                simp only [Option.isSome_some, if_true, Option.getD_some] at hln hlk
                                                                                clear hmi
                                                                                have HEp : Hid (ep eb true = .pointer (some ⟨eb, 0, none⟩)) := rfl
                                                                                rw [HEp.out] at hlk hg2 h62 ⊢
                                                                                go_wp2
                                                                                go_meet
                                                                                case rel => exact ⟨by rw [hl], rfl⟩
                                                                            | some x =>
                                                                              have hwn := live_some hl
                                                                              subst hwn
                                                                              rw [hl] at hmi e0
                                                                              simp only [Option.isSome_some, Bool.true_or, Bool.and_self, if_true] at hmi
                                                                              have hln := lenS Yba.underlying48 hmi
                                                                              have hlk := lookS Yba.underlying48 zero62 hmi
                                                                              simp only [Option.isSome_some, if_true, Option.getD_some] at hln hlk
                                                                              clear hmi
                                                                              have HEp : Hid (ep eb true = .pointer (some ⟨eb, 0, none⟩)) := rfl
                                                                              rw [HEp.out] at hlk hg2 h62 ⊢
                                                                              go_wp2
                                                                              go_meet
                                                                              case rel => exact ⟨by rw [hl], rfl⟩
                                                                      case rest =>
                                                                        as_aux_lemma =>
                                                                          obtain ⟨rfl, hwx⟩ := hcut
                                                                          subst hwx
                                                                          go_upto_if 386 with fail
                                                                          go_cut [] from 385 to 408 (fun wx => wx = wc)
                                                                          case first =>
                                                                            as_aux_lemma =>
                                                                              have c3 := HM.out.bp.cell 3 (.map (some (S0 + 1))) rfl
                                                                              have hmp := HM.out.hmp
                                                                              cases vn with
                                                                              | none =>
                                                                                simp only [Option.map_none] at hmp
                                                                                have hln := lenS Yba.underlying49 hmp
                                                                                simp only [Option.isSome_none, Bool.false_eq_true, if_false] at hln
                                                                                clear hmp
                                                                                go_wp2
                                                                                go_meet
                                                                                case rel => rfl
                                                                              | some v =>
                                                                                simp only [Option.map_some] at hmp
                                                                                have hln := lenS Yba.underlying49 hmp
                                                                                have hlk := lookS Yba.underlying49 zero40 hmp
                                                                                simp only [Option.isSome_some, if_true, Option.getD_some, np] at hln hlk
                                                                                have hns := neq40_same
                                                                                clear hmp
                                                                                simp only [op_some, np]
                                                                                go_wp2
                                                                                go_meet
                                                                                case rel => rfl
                                                                          case rest =>
                                                                            as_aux_lemma =>
                                                                              subst hcut
                                                                              have t12 := HM.out.bt.cell 12 tv rfl
                                                                              go_upto_if 414 with fail
                                                                              clear t12
                                                                              go_cut [48, 49] from 414 to 472 (fun v48 v49 wx => FIN w wx nb K xb st lk tn tv v48 v49)
                                                                              case first =>
                                                                                as_aux_lemma =>
                                                                                  have hR := HR.out
                                                                                  have hvxx : ∀ i, vals (rx i) = vals (ro i) := fun i => by rw [hR.vx, hR.vo]
                                                                                  have hokl : ∀ i, Okl 1024 (vals (rx i)) := fun i => by rw [hR.vx]; exact okl_outs HEn.out _ i
                                                                                  have hinn : ∀ i, inn i = ei i := fun i => by rw [hR.hin, hR.hei]
                                                                                  have hinle : ∀ i, inn i ≤ 1024 := fun i => by rw [hR.hin]; have := ins_le (edgesOf K zs) i; have := HEn.out; omega
                                                                                  have HVxx : Hid (∀ i, vals (rx i) = vals (ro i)) := hvxx
                                                                                  have HOkl : Hid (∀ i, Okl 1024 (vals (rx i))) := hokl
                                                                                  have HInn : Hid (∀ i, inn i = ei i) := hinn
                                                                                  have HInle : Hid (∀ i, inn i ≤ 1024) := hinle
                                                                                  have HOtk : Hid (∀ i, K ≤ i → rows (rx i) = .slice none 0 0) := fun i hi => (hR.otk i hi).2
                                                                                  clear hR hvxx hokl hinn hinle
                                                                                  cases lk with
                                                                                  | false =>
                                                                                    obtain ⟨htv, rows', vals', seen', aim', hGr, hx1, hx2, hvo⟩ := HG.out.no rfl
                                                                                    subst htv
                                                                                    have hfs := FS.of_read HL.out HS0.out HS1.out HQ.out HS13.out HStl.out hGr (fun b hb => hb) hx1 (fun _ _ => rfl) (Nat.le_refl _)
                                                                                    have HFin : Hid (FIN w wc nb K xb st false tn (op (na0 nb) tn) (.slice none 0 0) (.int .i64 0)) := ⟨_, _, _, _, _, _, _, hfs, fun i hi => by rw [hvo, hx2, HVxx.out], fun i => by rw [hx2]; exact (HOkl.out i).big (by omega), fun i hi => HInn.out i, fun i _ => by have := HInle.out i; omega, fun q => by simp at q⟩
                                                                                    have hns := neq_self (na0 nb)
                                                                                    clear hGr hfs hx1 hx2 hvo
                                                                                    go_wp2
                                                                                    go_meet
                                                                                    case rel => exact HFin.out
                                                                                  | true =>
                                                                                    obtain ⟨F', na', N', n, rows', vals', seen', aim', hn, htv, hfx, hGr, hx1, hx2, hvo⟩ := HG.out.yes rfl
                                                                                    subst htv
                                                                                    rcases hn with ⟨h1, h2, h3⟩ | ⟨h1, h2, h3, hold⟩
                                                                                    · have h3' : K = N' := h3.symm
                                                                                      subst h1 h2 h3'
                                                                                      have hnK : n < K := by rcases HTn.out with h | h; (simp at h; omega); simp at h
                                                                                      have hnK' : (n : Int) < (K : Int) := by omega
                                                                                      have hfs := FS.of_read HL.out HS0.out HS1.out HQ.out HS13.out HStl.out hGr hfx hx1 (fun _ _ => rfl) (Nat.le_refl _)
                                                                                      have HFs : Hid _ := hfs
                                                                                      have HX : Hid ((∀ i, rows' (rx i) = rows (rx i)) ∧ (∀ i, vals' (rx i) = vals (rx i)) ∧ ∀ i, vals' (ro i) = addV vn n (na0 nb) (addW (live st wn) (np (na0 nb) n) (fun i => vals (ro i))) i) := ⟨hx1, hx2, hvo⟩
                                                                                      have hns := neq40_same
                                                                                      clear hfx hGr hx1 hx2 hvo hfs h3
                                                                                      simp only [op_some, np]
                                                                                      go_upto_if 425 with fail
                                                                                      go_cut [42] from 424 to 445 (fun v42 wx => v42 = op (na0 nb) (live st wn) ∧ ∃ rows2 vals2 ei2, FS w wx nb K xb F' (na0 nb) K rows2 vals2 (inV vn (inW (live st wn) n inn)) st ei2 ∧ (∀ i, vals2 (ro i) = vals' (ro i)) ∧ (∀ i, vals2 (rx i) = addW (live st wn) (np (na0 nb) n) (fun i => vals (rx i)) i) ∧ (∀ i, ei2 i = inW (live st wn) n ei i))
                                                                                      case first =>
                                                                                        as_aux_lemma =>
                                                                                          cases hl : live st wn with
                                                                                          | none =>
                                                                                            go_wp2
                                                                                            go_meet
                                                                                            case rel => exact ⟨by rw [hl], rows', vals', ei, HFs.out, fun _ => rfl, fun i => by rw [hl]; exact HX.out.2.1 i, fun i => by rw [hl]; rfl⟩
                                                                                          | some x =>
                                                                                            have hwn := live_some hl
                                                                                            subst hwn
                                                                                            have hx : x < K := by rcases HWn.out with h | h; (simp at h; omega); simp at h
                                                                                            have hx' : (x : Int) < (K : Int) := by omega
                                                                                            obtain ⟨g2, cap2, w2, hrun, hS2, hk2⟩ := append_run HFs.out.sep (rx x) (np (na0 nb) n) ⟨_, rfl⟩ (by rw [HX.out.2.1]; have := (HOkl.out x).1; omega)
                                                                                            have hfs2 := HFs.out.exp hx hS2 hk2
                                                                                            have c1 := HFs.out.tx.cell hx
                                                                                            have c2 := (HFs.out.tx.same (hk2.block _ HFs.out.f3.1)).cell hx
                                                                                            have c3 := (HFs.out.tx.same (hk2.block _ HFs.out.f3.1)).frozen x
                                                                                            have c4 := hfs2.ti.cell hnK
                                                                                            have c5 := hfs2.ti.frozen n
                                                                                            have c6 := (Tab.alloc HFs.out.tx (.cells #[np (na0 nb) n] 40)).cell hx
                                                                                            have hei : ei n ≤ 1024 := by rw [← HInn.out]; exact HInle.out n
                                                                                            have HFs3 : Hid _ := hfs2.expIn hnK (ei n + 1)
                                                                                            have HR2 : Hid _ := hrun
                                                                                            simp only [np] at HR2 c6
                                                                                            clear hS2 hk2 hfs2 hrun
                                                                                            simp only [oi_some]
                                                                                            go_wp2_with (at_builtin; refine wpList_append_run (by rfl) _ _ _ (by rfl) (by rfl) (by rfl) HR2.out ?_)
                                                                                            go_meet
                                                                                            case rel =>
                                                                                              refine ⟨by rw [hl], _, _, _, HFs3.out, fun i => by rw [upr_ox], fun i => ?_, fun i => by rw [hl]; rfl⟩
                                                                                              rw [hl]
                                                                                              simp only [addW]
                                                                                              by_cases e : i = x
                                                                                              · subst e; rw [up_same, upr_same, HX.out.2.1]
                                                                                              · rw [up_other _ _ e, upr_other _ _ (by simp [e]), HX.out.2.1]
                                                                                      case rest =>
                                                                                        as_aux_lemma =>
                                                                                          obtain ⟨rfl, rows2, vals2, ei2, hfs4, hv1, hv2, hv3⟩ := hcut
                                                                                          have HFs4 : Hid _ := hfs4
                                                                                          have HV : Hid ((∀ i, vals2 (ro i) = vals' (ro i)) ∧ (∀ i, vals2 (rx i) = addW (live st wn) (np (na0 nb) n) (fun i => vals (rx i)) i) ∧ (∀ i, ei2 i = inW (live st wn) n ei i)) := ⟨hv1, hv2, hv3⟩
                                                                                          clear hfs4 hv1 hv2 hv3 HFs
                                                                                          have HEq : Hid ((fun i => vals (rx i)) = fun i => vals (ro i)) := funext HVxx.out
                                                                                          have HEi : Hid (ei = inn) := funext fun i => (HInn.out i).symm
                                                                                          cases vn with
                                                                                          | none =>
                                                                                            go_wp2
                                                                                            go_meet
                                                                                            case rel => exact ⟨_, _, _, _, _, _, _, HFs4.out, fun i _ => by rw [HV.out.1, HX.out.2.2, HV.out.2.1, HEq.out]; rfl, fun i => by rw [HV.out.2.1]; exact (okl_addW HOkl.out _ _ _ i).big (by omega), fun i _ => by rw [HV.out.2.2, HEi.out]; rfl, fun i _ => by have h1 := inV_le (vn := none) (inW_le' (we := live st wn) (m := n) HInle.out) i; omega, fun _ q => by simp at q⟩
                                                                                          | some v =>
                                                                                            have hv : v < K := by rcases HVn.out with h | h; (simp at h; omega); simp at h
                                                                                            have hv' : (v : Int) < (K : Int) := by omega
                                                                                            obtain ⟨g2, cap2, w2, hrun, hS2, hk2⟩ := append_run HFs4.out.sep (rx n) (np (na0 nb) v) ⟨_, rfl⟩ (by rw [HV.out.2.1]; have := (okl_addW HOkl.out (live st wn) (na0 nb) n n).1; omega)
                                                                                            have hfs5 := HFs4.out.exp hnK hS2 hk2
                                                                                            have c1 := HFs4.out.tx.cell hnK
                                                                                            have c2 := (HFs4.out.tx.same (hk2.block _ HFs4.out.f3.1)).cell hnK
                                                                                            have c3 := (HFs4.out.tx.same (hk2.block _ HFs4.out.f3.1)).frozen n
                                                                                            have c4 := hfs5.ti.cell hv
                                                                                            have c5 := hfs5.ti.frozen v
                                                                                            have c6 := (Tab.alloc HFs4.out.tx (.cells #[np (na0 nb) v] 40)).cell hnK
                                                                                            have hei : ei2 v ≤ 2000 := by rw [HV.out.2.2, HEi.out]; have := inW_le' (we := live st wn) (m := n) HInle.out v; omega
                                                                                            have HFs6 : Hid _ := hfs5.expIn hv (ei2 v + 1)
                                                                                            have HR2 : Hid _ := hrun
                                                                                            simp only [np] at HR2 c6
                                                                                            clear hS2 hk2 hfs5 hrun
                                                                                            simp only [oi_some, op_some, np]
                                                                                            go_wp2_with (at_builtin; refine wpList_append_run (by rfl) _ _ _ (by rfl) (by rfl) (by rfl) HR2.out ?_)
                                                                                            go_meet
                                                                                            case rel =>
                                                                                              refine ⟨_, _, _, _, _, _, _, HFs6.out, fun i _ => ?_, fun i => ?_, fun i _ => ?_, fun i _ => by have h1 := inV_le (vn := some v) (inW_le' (we := live st wn) (m := n) HInle.out) i; omega, fun _ q => by simp at q⟩
                                                                                              · rw [upr_ox, HV.out.1, HX.out.2.2]
                                                                                                simp only [addV]
                                                                                                by_cases e : i = n
                                                                                                · subst e; rw [up_same, upr_same, HV.out.2.1, HEq.out]
                                                                                                · rw [up_other _ _ e, upr_other _ _ (by simp [e]), HV.out.2.1, HEq.out]
                                                                                              · by_cases e : i = n
                                                                                                · subst e; rw [upr_same, HV.out.2.1]; exact ((okl_addW HOkl.out _ _ _ i).snoc _ _).big (by omega)
                                                                                                · rw [upr_other _ _ (by simp [e]), HV.out.2.1]; exact (okl_addW HOkl.out _ _ _ i).big (by omega)
                                                                                              · simp only [inV]
                                                                                                by_cases e : i = v
                                                                                                · subst e; rw [up_same, up_same, HV.out.2.2, HEi.out]
                                                                                                · rw [up_other _ _ e, up_other _ _ e, HV.out.2.2, HEi.out]
                                                                                    · have h2' : K = n := h2.symm
                                                                                      subst h1 h2' h3
                                                                                      have hfs := FS.of_read HL.out HS0.out HS1.out HQ.out HS13.out HStl.out hGr hfx hx1 hold (Nat.le_succ _)
                                                                                      have HFs : Hid _ := hfs
                                                                                      have HX : Hid ((∀ i, rows' (rx i) = rows (rx i)) ∧ (∀ i, vals' (rx i) = vals (rx i)) ∧ ∀ i, vals' (ro i) = addV vn K (na0 nb) (addW (live st wn) (np na' K) (fun i => vals (ro i))) i) := ⟨hx1, hx2, hvo⟩
                                                                                      have HInK : Hid (inn K = 0) := by
                                                                                        show inn K = 0
                                                                                        rw [HR.out.hin, ins_big (edges_lt hK1 zs)]
                                                                                      have HHold : Hid (∀ i, i < K → na' i = na0 nb i) := hold
                                                                                      clear hfx hGr hx1 hx2 hvo hfs hold
                                                                                      simp only [op_none, np]
                                                                                      go_upto_if 425 with fail
                                                                                      go_cut [42, 49] from 424 to 445 (fun v42 v49 wx => v42 = op (na0 nb) (live st wn) ∧ v49 = .int .i64 ((if (live st wn).isSome then 1 else 0 : Nat) : Int) ∧ ∃ rows2 vals2, FS w wx nb K xb F' na' (K + 1) rows2 vals2 (inV vn (inW (live st wn) K inn)) st ei ∧ (∀ i, vals2 (ro i) = vals' (ro i)) ∧ (∀ i, vals2 (rx i) = addW (live st wn) (np na' K) (fun i => vals (rx i)) i) ∧ rows2 (rx K) = .slice none 0 0)
                                                                                      case first =>
                                                                                        as_aux_lemma =>
                                                                                          cases hl : live st wn with
                                                                                          | none =>
                                                                                            go_wp2
                                                                                            go_meet
                                                                                            case rel => exact ⟨by rw [hl], by rw [hl]; rfl, rows', vals', HFs.out, fun _ => rfl, fun i => by rw [hl]; exact HX.out.2.1 i, by rw [HX.out.1]; exact HOtk.out K (Nat.le_refl _)⟩
                                                                                          | some x =>
                                                                                            have hwn := live_some hl
                                                                                            subst hwn
                                                                                            have hx : x < K := by rcases HWn.out with h | h; (simp at h; omega); simp at h
                                                                                            have hx' : (x : Int) < (K : Int) := by omega
                                                                                            obtain ⟨g2, cap2, w2, hrun, hS2, hk2⟩ := append_run HFs.out.sep (rx x) (np na' K) ⟨_, rfl⟩ (by rw [HX.out.2.1]; have := (HOkl.out x).1; omega)
                                                                                            have hfs2 := HFs.out.exp hx hS2 hk2
                                                                                            have c1 := HFs.out.tx.cell hx
                                                                                            have c2 := (HFs.out.tx.same (hk2.block _ HFs.out.f3.1)).cell hx
                                                                                            have c3 := (HFs.out.tx.same (hk2.block _ HFs.out.f3.1)).frozen x
                                                                                            have c6 := (Tab.alloc HFs.out.tx (.cells #[np na' K] 40)).cell hx
                                                                                            have HFs3 : Hid _ := hfs2
                                                                                            have HR2 : Hid _ := hrun
                                                                                            simp only [np] at HR2 c6
                                                                                            clear hS2 hk2 hfs2 hrun
                                                                                            simp only [oi_some]
                                                                                            go_wp2_with (at_builtin; refine wpList_append_run (by rfl) _ _ _ (by rfl) (by rfl) (by rfl) HR2.out ?_)
                                                                                            go_meet
                                                                                            case rel =>
                                                                                              refine ⟨by rw [hl], by rw [hl]; rfl, _, _, HFs3.out, fun i => by rw [upr_ox], fun i => ?_, by rw [upr_other _ _ (by simp; omega), HX.out.1]; exact HOtk.out K (Nat.le_refl _)⟩
                                                                                              rw [hl]
                                                                                              simp only [addW]
                                                                                              by_cases e : i = x
                                                                                              · subst e; rw [up_same, upr_same, HX.out.2.1]
                                                                                              · rw [up_other _ _ e, upr_other _ _ (by simp [e]), HX.out.2.1]
                                                                                      case rest =>
                                                                                        as_aux_lemma =>
                                                                                          obtain ⟨rfl, rfl, rows2, vals2, hfs4, hv1, hv2, hv3⟩ := hcut
                                                                                          have HFs4 : Hid _ := hfs4
                                                                                          have HV : Hid ((∀ i, vals2 (ro i) = vals' (ro i)) ∧ (∀ i, vals2 (rx i) = addW (live st wn) (np na' K) (fun i => vals (rx i)) i) ∧ rows2 (rx K) = .slice none 0 0) := ⟨hv1, hv2, hv3⟩
                                                                                          clear hfs4 hv1 hv2 hv3 HFs
                                                                                          have HEq : Hid ((fun i => vals (rx i)) = fun i => vals (ro i)) := funext HVxx.out
                                                                                          have HInW : Hid (∀ i, i < K → inW (live st wn) K inn i = ei i) := fun i hi => by
                                                                                            rw [← HInn.out]
                                                                                            unfold inW
                                                                                            cases live st wn with
                                                                                            | none => rfl
                                                                                            | some x => exact up_other _ _ (by omega)
                                                                                          have HInWK : Hid (inW (live st wn) K inn K = if (live st wn).isSome then 1 else 0) := by
                                                                                            show inW (live st wn) K inn K = if (live st wn).isSome then 1 else 0
                                                                                            have h0 := HInK.out
                                                                                            unfold inW
                                                                                            cases live st wn with
                                                                                            | none => simpa using h0
                                                                                            | some x => simp [h0]
                                                                                          cases vn with
                                                                                          | none =>
                                                                                            generalize hfx : Value.int .i64 ((if (live st wn).isSome then 1 else 0 : Nat) : Int) = f49 at *
                                                                                            have HF49 : Hid _ := hfx
                                                                                            clear hfx
                                                                                            go_wp2
                                                                                            go_meet
                                                                                            case rel => exact ⟨_, _, _, _, _, _, _, HFs4.out, fun i _ => by rw [HV.out.1, HX.out.2.2, HV.out.2.1, HEq.out]; rfl, fun i => by rw [HV.out.2.1]; exact (okl_addW HOkl.out _ _ _ i).big (by omega), fun i hi => by simp only [inV]; exact HInW.out i hi, fun i _ => by have h1 := inV_le (vn := none) (inW_le' (we := live st wn) (m := K) HInle.out) i; omega, fun _ _ => ⟨rfl, rfl, HV.out.2.2.symm, by rw [HV.out.1, HX.out.2.2, HV.out.2.1, HEq.out]; rfl, by simp only [inV]; rw [HInWK.out]; exact HF49.out.symm⟩⟩
                                                                                          | some v =>
                                                                                            have hv : v < K := by rcases HVn.out with h | h; (simp at h; omega); simp at h
                                                                                            have hv' : (v : Int) < (K : Int) := by omega
                                                                                            obtain ⟨g2, cap2, w2, hrun, hS2, hk2⟩ := append_run HFs4.out.sep (rx K) (np (na0 nb) v) ⟨_, rfl⟩ (by rw [HV.out.2.1]; have := (okl_addW HOkl.out (live st wn) na' K K).1; omega)
                                                                                            rw [HV.out.2.2] at hrun
                                                                                            have hfs5 := HFs4.out.new (Nat.le_refl K) hS2 hk2
                                                                                            have c4 := hfs5.ti.cell hv
                                                                                            have c5 := hfs5.ti.frozen v
                                                                                            have hei : ei v ≤ 1024 := by rw [← HInn.out]; exact HInle.out v
                                                                                            have HFs6 : Hid _ := hfs5.expIn hv (ei v + 1)
                                                                                            have HR2 : Hid _ := hrun
                                                                                            simp only [np] at HR2
                                                                                            clear hS2 hk2 hfs5 hrun
                                                                                            generalize hfx : Value.int .i64 ((if (live st wn).isSome then 1 else 0 : Nat) : Int) = f49 at *
                                                                                            have HF49 : Hid _ := hfx
                                                                                            clear hfx
                                                                                            simp only [oi_some, op_some, np]
                                                                                            go_wp2_with (at_builtin; refine wpList_append_run (by rfl) _ _ _ (by rfl) (by rfl) (by rfl) HR2.out ?_)
                                                                                            go_meet
                                                                                            case rel =>
                                                                                              refine ⟨_, _, _, _, _, _, _, HFs6.out, fun i hi => ?_, fun i => ?_, fun i hi => ?_, fun i _ => by have h1 := inV_le (vn := some v) (inW_le' (we := live st wn) (m := K) HInle.out) i; omega, fun _ _ => ⟨rfl, rfl, (upr_same _ _ _).symm, ?_, ?_⟩⟩
                                                                                              · rw [upr_ox, HV.out.1, HX.out.2.2]
                                                                                                simp only [addV]
                                                                                                rw [up_other _ _ (by omega), upr_other _ _ (by simp; omega), HV.out.2.1, HEq.out]
                                                                                              · by_cases e : i = K
                                                                                                · subst e; rw [upr_same, HV.out.2.1]; exact ((okl_addW HOkl.out _ _ _ i).snoc _ _).big (by omega)
                                                                                                · rw [upr_other _ _ (by simp [e]), HV.out.2.1]; exact (okl_addW HOkl.out _ _ _ i).big (by omega)
                                                                                              · simp only [inV]
                                                                                                by_cases e : i = v
                                                                                                · subst e; rw [up_same, up_same, HInW.out i hi]
                                                                                                · rw [up_other _ _ e, up_other _ _ e, HInW.out i hi]
                                                                                              · rw [upr_ox, HV.out.1, HX.out.2.2]
                                                                                                simp only [addV]
                                                                                                rw [up_same, upr_same, HV.out.2.1, HEq.out]
                                                                                              · simp only [inV]
                                                                                                rw [up_other _ _ (by omega), HInWK.out]
                                                                                                exact HF49.out.symm
                                                                              case rest =>
                                                                                as_aux_lemma =>
                                                                                  obtain ⟨F2, na2, N2, rows2, vals2, inn2, ei2, hfs, hv1, hv2, hv3, hv4, hv5⟩ := hcut.ex
                                                                                  have HFs : Hid _ := hfs
                                                                                  have HV1 : Hid (∀ i, i < K → vals2 (ro i) = vals2 (rx i)) := hv1
                                                                                  have HV2 : Hid (∀ i, Okl 100000 (vals2 (rx i))) := hv2
                                                                                  have HV3 : Hid (∀ i, i < K → inn2 i = ei2 i) := hv3
                                                                                  have HV4 : Hid (∀ i, i ≤ K → inn2 i ≤ 100000) := hv4
                                                                                  have HV5 : Hid (lk = true → tn = none → N2 = K + 1 ∧ tv = np na2 K ∧ u48 = rows2 (rx K) ∧ vals2 (ro K) = vals2 (rx K) ∧ u49 = .int .i64 (inn2 K : Int)) := hv5
                                                                                  clear hcut hfs hv1 hv2 hv3 hv4 hv5 HG HM HStl HQ HL HR HPre HS13 hfl'
                                                                                  obtain ⟨W20, hW20⟩ : ∃ W20, W20 = wc := ⟨_, rfl⟩
                                                                                  subst hW20
                                                                                  go_wp2
                                                                                  go_loopw [51] (fun iv wr => ∃ i : Nat, iv = .int .i64 (i : Int) ∧ i ≤ K ∧ ∃ d, wr = W20.drewN d) (fun iv _ => K - (intOf iv).toNat)
                                                                                  case atStart => exact ⟨0, rfl, Nat.zero_le _, 0, rfl⟩
                                                                                  case round =>
                                                                                    obtain ⟨i, rfl, hi, d, rfl⟩ := hrel
                                                                                    by_cases hlt2 : i < K
                                                                                    · have hlt2' : (i : Int) < (K : Int) := by omega
                                                                                      have hfd := HFs.out.drewN d
                                                                                      obtain ⟨W21, hW21⟩ : ∃ W21, W21 = W20.drewN d := ⟨_, rfl⟩
                                                                                      have HW21 : Hid (W21 = W20.drewN d) := hW21
                                                                                      rw [← hW21] at hfd ⊢
                                                                                      clear hW21
                                                                                      obtain ⟨seen2, aim2, hg⟩ := hfd.gr
                                                                                      have hiN : i < N2 := Nat.lt_of_lt_of_le hlt2 hfd.kn
                                                                                      have hnn := hfd.nn i hlt2
                                                                                      have c1 := hfd.tn.cell hlt2
                                                                                      have c2 := hg.nodes.c0 hiN
                                                                                      have c3 := hg.nodes.c1 hiN
                                                                                      have c4 := hg.nodes.c2 hiN
                                                                                      have c5 := hfd.tx.cell hlt2
                                                                                      have c6 := hfd.ti.cell hlt2
                                                                                      have c7 := hfd.ts.cell hlt2
                                                                                      rw [hnn] at c2 c3 c4
                                                                                      rw [HV3.out i hlt2] at c3
                                                                                      simp only [np] at c1
                                                                                      have hq1 := hg.sep.own (ro i)
                                                                                      have hq2 := hg.sep.own (rx i)
                                                                                      rw [HV1.out i hlt2] at hq1
                                                                                      have HEq : Hid (∀ n, Calls Yba.prog 12 #[rows2 (ro i), rows2 (rx i)] (W21.drewN n) fun e w' => e = .returned (.bool true) ∧ ∃ m, w' = (W21.drewN n).drewN m) := fun n => equal_any _ _ (vals2 (rx i)) _ (HV2.out i).2 (HV2.out i).1 (own_same hq1 fun b _ => rfl) (own_same hq2 fun b _ => rfl)
                                                                                      clear hg hq1 hq2 hnn hfd
                                                                                      go_wp2
                                                                                      go_quiet ((go_at_call 12; exact Calls.quiet_of (HEq.out _)))
                                                                                      go_wp2
                                                                                      go_roundw
                                                                                      case rel => first | exact ⟨i + 1, by go_num, by omega, _, by rw [HW21.out]; exact World.drewN_drewN _ _ _⟩ | ((repeat apply Exists.intro); exact ⟨⟨i + 1, by go_num, by omega, _, by rw [HW21.out]; exact World.drewN_drewN _ _ _⟩, rfl⟩)
                                                                                      case measure => simp [intOf]; omega
                                                                                    · obtain rfl : K = i := by omega
                                                                                      have hret : Below w.heap.size w (W20.drewN d) := by
                                                                                        rw [← HNb.out]
                                                                                        exact (HFs.out.drewN d).bel
                                                                                      have HRet : Hid _ := hret
                                                                                      clear hret
                                                                                      cases lk with
                                                                                      | false =>
                                                                                        go_wp2
                                                                                        go_ret
                                                                                        exact ⟨rfl, HRet.out⟩
                                                                                      | true =>
                                                                                        cases tn with
                                                                                        | some n =>
                                                                                          go_wp2
                                                                                          go_ret
                                                                                          exact ⟨rfl, HRet.out⟩
                                                                                        | none =>
                                                                                          obtain ⟨e1, e2, e3, e4, e5⟩ := HV5.out rfl rfl
                                                                                          subst e1 e2 e3 e5
                                                                                          obtain ⟨seen2, aim2, hg⟩ := HFs.out.gr
                                                                                          have c2 := hg.nodes.c0 (Nat.lt_succ_self K)
                                                                                          have c3 := hg.nodes.c1 (Nat.lt_succ_self K)
                                                                                          have c4 := hg.nodes.c2 (Nat.lt_succ_self K)
                                                                                          rw [HStK.out K (Nat.le_refl _)] at c4
                                                                                          have hq1 := hg.sep.own (ro K)
                                                                                          have hq2 := hg.sep.own (rx K)
                                                                                          rw [e4] at hq1
                                                                                          have HEq : Hid (Calls Yba.prog 12 #[rows2 (ro K), rows2 (rx K)] (W20.drewN d) fun e w' => e = .returned (.bool true) ∧ ∃ m, w' = (W20.drewN d).drewN m) := equal_any _ _ (vals2 (rx K)) _ (HV2.out K).2 (HV2.out K).1 (own_same hq1 fun b _ => rfl) (own_same hq2 fun b _ => rfl)
                                                                                          clear hg hq1 hq2 e4
                                                                                          simp only [np]
                                                                                          go_wp2_with (go_at_call 12; refine Calls.mono HEq.out ?_; rintro e w' ⟨rfl, m, rfl⟩)
                                                                                          go_ret
                                                                                          refine ⟨rfl, ?_⟩
                                                                                          have h1 := HRet.out
                                                                                          exact ⟨h1.os, h1.tape, h1.output, h1.size, h1.block⟩
end Go.Proofs.Ybulkboaa.BLaw
