/- What the law's row stands on, part 1: contracts of functions, for the arguments and worlds that each one names. -/
import Derived.Test.YtmhnhfmkcipcpaaCkFnListRuns0
import Derived.Deep.QuietTactic
import Derived.BigQuiet
import Derived.Test.YtmhnhfmkcipcpaaWTab
import Derived.RegionTactic
import Derived.ChangeAlike
namespace Go.Proofs.Ytmhnhfmkcipcpaa.Lists
open Go Go.RowKit Go.Proofs.Ytmhnhfmkcipcpaa.Hk Go.Proofs.Ytmhnhfmkcipcpaa.ListPure Go.Proofs.Ytmhnhfmkcipcpaa.Heap Go.Proofs.YtmhnhfmkcipcpaaW.PrintWords Go.Proofs.YtmhnhfmkcipcpaaW.PrintLast Go.Proofs.YtmhnhfmkcipcpaaW.PrintMore
/-- The row behind a step on a node, and what that tells: by the row's two parts, if the node is in it. -/
def rowN (d : Int) (n : Nat) (row : List Nat) : List Nat := if d = 2 then row.erase n else if d = 3 then row ++ [n] else if d = 4 then n :: row else row
def keysN (V : Nat → Int) (d : Int) (n : Nat) (row : List Nat) : List Int := if d = 7 then (row.drop (row.idxOf n)).map V else if d = 8 then ((row.take (row.idxOf n + 1)).map V).reverse else []
theorem split_at {n : Nat} {row : List Nat} (h : n ∈ row) (hd : row.Nodup) : ∃ l r, row = l ++ n :: r ∧ row.erase n = l ++ r ∧ row.drop (row.idxOf n) = n :: r ∧ row.take (row.idxOf n + 1) = l ++ [n] := by
  obtain ⟨l, r, e⟩ := List.append_of_mem h
  subst e
  obtain ⟨d1, d2, d3⟩ := List.nodup_append.1 hd
  have hl : n ∉ l := fun q => d3 n q n (by simp) rfl
  have hi : (l ++ n :: r).idxOf n = l.length := by
    rw [List.idxOf_append, if_neg hl]
    simp
  refine ⟨l, r, rfl, ?_, ?_, ?_⟩
  · rw [List.erase_append_right _ hl]
    simp
  · rw [hi]; simp
  · rw [hi, List.take_append, List.take_of_length_le (by omega)]
    simp
theorem ptr_cell {w : World} {base g m c : Nat} {ns : List Nat} (h : ptrK.R 110 w base (fun _ => True) (.slice (some ⟨g, 0, none⟩) m c) ns) {k n : Nat} (hk : ns[k]? = some n) : w.cell? ⟨g, k, none⟩ = some (.pointer (some ⟨n, 0, none⟩)) := by
  have hkl := (List.getElem?_eq_some_iff.1 hk).1
  obtain ⟨ad, e, hc⟩ := Stack.at_ptr (Kd.R_reads' h).2.2 (k : Int) (by omega) (by omega)
  injection e with e
  subst e
  rw [Int.toNat_natCast] at hc
  have e1 : (⟨g, 0, none⟩ : Addr).add k = ⟨g, k, none⟩ := by
    unfold Addr.add
    by_cases h0 : k = 0 <;> simp [h0]
  rw [e1] at hc
  rw [hc, List.getD_eq_getElem?_getD, hk]
  rfl
theorem Nd.outF {base Rb Lb s b : Nat} {w0 W W1 : World} {ns row : List Nat} {V : Nat → Int} {vn kv : Value} {ks : List Int} {cs : Array Value} (h : Nd base Rb Lb s w0 W ns V row vn kv ks) (hb : Blk W b cs 34) (hs : s ≤ b) (hF : Fr (· = b) W W1) : Ring base Rb Lb W1 ns V row vn ∧ Fr (Zr base w0) w0 W1 ∧ ∀ v ys, Ro W s v ys → Ro W1 s v ys := by
  have hZ : ∀ e, 34 ≠ e → ∀ g, g = b → ∃ cs t, W.heap[g]? = some (.cells cs t (0, 0)) ∧ t ≠ e := fun e hne g hg => by
    subst hg
    exact ⟨_, _, hb, hne⟩
  have hbs := h.s0
  obtain ⟨P, X, hM, hK, hD, hS⟩ := h.ring.lst
  refine ⟨⟨Stack.blk_fr h.ring.blk hF (hZ _ (by decide)), ⟨P, X, ⟨Stack.blk_fr hM.lb hF (hZ _ (by decide)), fun k hk => Stack.blk_fr (hM.nd k hk) hF (hZ _ (by decide))⟩, hK, hD, hS⟩, Stack.row_fr (d := ptrK) rfl h.ring.nod hF (hZ _ (by decide)), h.ring.ge⟩, h.fr.trans hF (fun k hk e => by omega), fun v ys hR => Ro.fr hR hF (fun k hk e => ?_)⟩
  obtain ⟨inner, ho⟩ := Kd.R_own hR
  obtain ⟨cs', hc⟩ := own_typed ho k hk
  obtain ⟨cs2, t2, h2, hne⟩ := hZ 3 (by decide) k e
  exact Stack.clash hc h2 (fun q => hne q.symm)
theorem Nd.keyed {base Rb Lb s : Nat} {w0 W : World} {ns row : List Nat} {V : Nat → Int} {vn kv : Value} {ks ks' : List Int} (h : Nd base Rb Lb s w0 W ns V row vn kv ks) (kv' : Value) (hR : Ro W s kv' ks') : Nd base Rb Lb s w0 (W.setCell ⟨s + 2, 2, none⟩ kv') ns V row vn kv' ks' := by
  have hF : Fr (· = s + 2) W (W.setCell ⟨s + 2, 2, none⟩ kv') := Fr.one
  obtain ⟨a1, a2, a3⟩ := h.outF h.x5 (by omega) hF
  exact ⟨a1, a2, h.x4.fr hF (by omega), h.x5.set 2 _, a3 _ _ hR, h.s0, Nat.lt_of_lt_of_le h.lt hF.size⟩
set_option maxHeartbeats 16000000 in
set_option maxRecDepth 100000 in
theorem node_any (base Rb Lb : Nat) (w : World) (ns : List Nat) (V : Nat → Int) (row : List Nat) (vn : Value) (o d key : Int) (k n : Nat) (hR : Ring base Rb Lb w ns V row vn) (hk : ns[k]? = some n) (hv : (d = 2 ∨ d = 7 ∨ d = 8) → n ∈ row) (hv2 : (d = 3 ∨ d = 4) → n ∉ row) (hl : row.length ≤ 1099511627776) (hlN : ns.length ≤ 1099511627776) :
    Calls Try.prog 75 #[.pointer (some ⟨Rb, 0, none⟩), .agg #[.int .i64 o, .int .i64 d, .int .i64 key, .int .i64 k]] w fun e w' => ∃ kv, e = .returned (.agg #[.int .i64 0, .bool false, kv, .slice none 0 0]) ∧
      Ring base Rb Lb w' ns V (rowN d n row) vn ∧ Ro w' w.heap.size kv (keysN V d n row) ∧ Fr (Zr base w) w w' := by
  have hkl := (List.getElem?_eq_some_iff.1 hk).1
  obtain ⟨g, c, rfl, _, _, _⟩ := Kd.R_form hR.nod (by omega)
  have HNN : Hid (n ∈ ns) := hid (List.mem_of_getElem? hk)
  have HDUP : Hid row.Nodup := by
    obtain ⟨_, _, _, _, hD, _⟩ := hR.lst
    exact hid hD
  have H0 := hid (Nd.start hR #[.int .i64 o, .int .i64 d, .int .i64 key, .int .i64 k])
  have HS : Hid (Blk (((w.alloc (.cells #[.int .i64 o, .int .i64 d, .int .i64 key, .int .i64 k] 27)).alloc (.cells (F4k (.slice none 0 0)) 34)).alloc (.cells (F4k (.slice none 0 0)) 34)) w.heap.size #[.int .i64 o, .int .i64 d, .int .i64 key, .int .i64 k] 27) := hid (((Blk.new w _ _).alloc _).alloc _)
  have HK := hid hk
  have HV := hid hv
  have HV2 := hid hv2
  have HL := hid hl
  have HNL : Hid (k < ns.length) := hid hkl
  obtain ⟨m, hm⟩ : ∃ m, ns.length = m := ⟨_, rfl⟩
  have HM := hid hm
  rw [hm] at hkl hlN
  clear hm
  have hkm : (k : Int) < (m : Int) := by omega
  clear hR hk hv hv2 hl
  go_enter Try.func75, Try.ntmps75
  go_upto_region 2 with fail
  change Code.wp _ _ _ _ (((w.alloc (.cells #[.int .i64 o, .int .i64 d, .int .i64 key, .int .i64 k] 27)).alloc (.cells (F4k (.slice none 0 0)) 34)).alloc (.cells (F4k (.slice none 0 0)) 34))
  generalize ((w.alloc (.cells #[.int .i64 o, .int .i64 d, .int .i64 key, .int .i64 k] 27)).alloc (.cells (F4k (.slice none 0 0)) 34)).alloc (.cells (F4k (.slice none 0 0)) 34) = W at H0 HS ⊢
  have r1 : W.cell? ⟨Rb, 1, none⟩ = some (.slice (some ⟨g, 0, none⟩) m c) := by have := H0.out.ring.blk.cell 1; rw [HM.out] at this; exact this
  have k3 : W.cell? ⟨w.heap.size, 3, none⟩ = some (.int .i64 k) := HS.out.cell 3
  have n0 : W.cell? ⟨g, k, none⟩ = some (.pointer (some ⟨n, 0, none⟩)) := ptr_cell H0.out.ring.nod HK.out
  go_quiet (fail)
  have H1 := hid (H0.out.drewN nq)
  have HS1 := hid (HS.out.drewN nq)
  clear H0 HS r1 k3 n0
  generalize W.drewN nq = W1 at H1 HS1 ⊢
  have k1 : W1.cell? ⟨w.heap.size, 1, none⟩ = some (.int .i64 d) := HS1.out.cell 1
  by_cases h2 : d = 2
  · subst h2
    have l0 : W1.cell? ⟨Rb, 0, none⟩ = some (.pointer (some ⟨Lb, 0, none⟩)) := H1.out.ring.blk.cell 0
    obtain ⟨l, r, e1, e2, _, _⟩ := split_at (HV.out (.inl rfl)) HDUP.out
    have HT : Hid (rowN 2 n row = l ++ r ∧ keysN V 2 n row = []) := hid ⟨e2, rfl⟩
    have HLst : Hid (Lst W1 Lb ns V (l ++ n :: r)) := hid (e1 ▸ H1.out.ring.lst)
    clear e1 e2
    go_wp2_with fail
    refine (out_node HLst.out).mono ?_
    rintro e W2 ⟨rfl, hL, hF⟩
    have H2 := hid (H1.out.turn hL hF)
    clear hL hF H1 k1 HS1
    go_upto_region 14 with fail
    have p0 : W2.cell? ⟨w.heap.size + 2, 0, none⟩ = some (.int .i64 0) := H2.out.x5.cell 0
    have p1 : W2.cell? ⟨w.heap.size + 2, 1, none⟩ = some (.bool false) := H2.out.x5.cell 1
    have p2 : W2.cell? ⟨w.heap.size + 2, 2, none⟩ = some (.slice none 0 0) := H2.out.x5.cell 2
    have p3 : W2.cell? ⟨w.heap.size + 2, 3, none⟩ = some (.slice none 0 0) := H2.out.x5.cell 3
    have q0 : W2.cell? ⟨w.heap.size + 1, 0, none⟩ = some (.int .i64 0) := H2.out.x4.cell 0
    have z0 : W2.frozen? ⟨w.heap.size + 1, 0, none⟩ = false := H2.out.x4.free 0
    have q1 : W2.cell? ⟨w.heap.size + 1, 1, none⟩ = some (.bool false) := H2.out.x4.cell 1
    have z1 : W2.frozen? ⟨w.heap.size + 1, 1, none⟩ = false := H2.out.x4.free 1
    have q2 : W2.cell? ⟨w.heap.size + 1, 2, none⟩ = some (.slice none 0 0) := H2.out.x4.cell 2
    have z2 : W2.frozen? ⟨w.heap.size + 1, 2, none⟩ = false := H2.out.x4.free 2
    have q3 : W2.cell? ⟨w.heap.size + 1, 3, none⟩ = some (.slice none 0 0) := H2.out.x4.cell 3
    have z3 : W2.frozen? ⟨w.heap.size + 1, 3, none⟩ = false := H2.out.x4.free 3
    go_wp2_with fail
    refine bodyPost_ret (v := .agg #[.int .i64 0, .bool false, .slice none 0 0, .slice none 0 0]) (by simp [results, Try.results75, go_sem, q0, q1, q2, q3]) rfl ?_
    have hF4 : Fr (· = w.heap.size + 1) W2 ((((W2.setCell ⟨w.heap.size + 1, 0, none⟩ (.int .i64 0)).setCell ⟨w.heap.size + 1, 1, none⟩ (.bool false)).setCell ⟨w.heap.size + 1, 2, none⟩ (.slice none 0 0)).setCell ⟨w.heap.size + 1, 3, none⟩ (.slice none 0 0)) := (((Fr.one).then Fr.one).then Fr.one).then Fr.one
    obtain ⟨a1, a2, a3⟩ := H2.out.outF H2.out.x4 (Nat.le_succ _) hF4
    exact ⟨_, rfl, by rw [HT.out.1]; exact a1, by rw [HT.out.2]; exact a3 _ _ H2.out.keys, a2⟩
  · have hz2 : (d == 2) = false := beq_eq_false_iff_ne.2 h2
    by_cases h3 : d = 3
    · subst h3
      have l0 : W1.cell? ⟨Rb, 0, none⟩ = some (.pointer (some ⟨Lb, 0, none⟩)) := H1.out.ring.blk.cell 0
      have HT : Hid (rowN 3 n row = row ++ [n] ∧ keysN V 3 n row = []) := hid ⟨rfl, rfl⟩
      go_wp2_with fail
      refine (back_node H1.out.ring.lst HNN.out (HV2.out (by simp))).mono ?_
      rintro e W2 ⟨rfl, hL, hF⟩
      have H2 := hid (H1.out.turn hL hF)
      clear hL hF H1 k1 HS1
      go_upto_region 14 with fail
      have p0 : W2.cell? ⟨w.heap.size + 2, 0, none⟩ = some (.int .i64 0) := H2.out.x5.cell 0
      have p1 : W2.cell? ⟨w.heap.size + 2, 1, none⟩ = some (.bool false) := H2.out.x5.cell 1
      have p2 : W2.cell? ⟨w.heap.size + 2, 2, none⟩ = some (.slice none 0 0) := H2.out.x5.cell 2
      have p3 : W2.cell? ⟨w.heap.size + 2, 3, none⟩ = some (.slice none 0 0) := H2.out.x5.cell 3
      have q0 : W2.cell? ⟨w.heap.size + 1, 0, none⟩ = some (.int .i64 0) := H2.out.x4.cell 0
      have z0 : W2.frozen? ⟨w.heap.size + 1, 0, none⟩ = false := H2.out.x4.free 0
      have q1 : W2.cell? ⟨w.heap.size + 1, 1, none⟩ = some (.bool false) := H2.out.x4.cell 1
      have z1 : W2.frozen? ⟨w.heap.size + 1, 1, none⟩ = false := H2.out.x4.free 1
      have q2 : W2.cell? ⟨w.heap.size + 1, 2, none⟩ = some (.slice none 0 0) := H2.out.x4.cell 2
      have z2 : W2.frozen? ⟨w.heap.size + 1, 2, none⟩ = false := H2.out.x4.free 2
      have q3 : W2.cell? ⟨w.heap.size + 1, 3, none⟩ = some (.slice none 0 0) := H2.out.x4.cell 3
      have z3 : W2.frozen? ⟨w.heap.size + 1, 3, none⟩ = false := H2.out.x4.free 3
      go_wp2_with fail
      refine bodyPost_ret (v := .agg #[.int .i64 0, .bool false, .slice none 0 0, .slice none 0 0]) (by simp [results, Try.results75, go_sem, q0, q1, q2, q3]) rfl ?_
      have hF4 : Fr (· = w.heap.size + 1) W2 ((((W2.setCell ⟨w.heap.size + 1, 0, none⟩ (.int .i64 0)).setCell ⟨w.heap.size + 1, 1, none⟩ (.bool false)).setCell ⟨w.heap.size + 1, 2, none⟩ (.slice none 0 0)).setCell ⟨w.heap.size + 1, 3, none⟩ (.slice none 0 0)) := (((Fr.one).then Fr.one).then Fr.one).then Fr.one
      obtain ⟨a1, a2, a3⟩ := H2.out.outF H2.out.x4 (Nat.le_succ _) hF4
      exact ⟨_, rfl, by rw [HT.out.1]; exact a1, by rw [HT.out.2]; exact a3 _ _ H2.out.keys, a2⟩
    · have hz3 : (d == 3) = false := beq_eq_false_iff_ne.2 h3
      by_cases h4 : d = 4
      · subst h4
        have l0 : W1.cell? ⟨Rb, 0, none⟩ = some (.pointer (some ⟨Lb, 0, none⟩)) := H1.out.ring.blk.cell 0
        have HT : Hid (rowN 4 n row = n :: row ∧ keysN V 4 n row = []) := hid ⟨rfl, rfl⟩
        go_wp2_with fail
        refine (front_node H1.out.ring.lst HNN.out (HV2.out (by simp))).mono ?_
        rintro e W2 ⟨rfl, hL, hF⟩
        have H2 := hid (H1.out.turn hL hF)
        clear hL hF H1 k1 HS1
        go_upto_region 14 with fail
        have p0 : W2.cell? ⟨w.heap.size + 2, 0, none⟩ = some (.int .i64 0) := H2.out.x5.cell 0
        have p1 : W2.cell? ⟨w.heap.size + 2, 1, none⟩ = some (.bool false) := H2.out.x5.cell 1
        have p2 : W2.cell? ⟨w.heap.size + 2, 2, none⟩ = some (.slice none 0 0) := H2.out.x5.cell 2
        have p3 : W2.cell? ⟨w.heap.size + 2, 3, none⟩ = some (.slice none 0 0) := H2.out.x5.cell 3
        have q0 : W2.cell? ⟨w.heap.size + 1, 0, none⟩ = some (.int .i64 0) := H2.out.x4.cell 0
        have z0 : W2.frozen? ⟨w.heap.size + 1, 0, none⟩ = false := H2.out.x4.free 0
        have q1 : W2.cell? ⟨w.heap.size + 1, 1, none⟩ = some (.bool false) := H2.out.x4.cell 1
        have z1 : W2.frozen? ⟨w.heap.size + 1, 1, none⟩ = false := H2.out.x4.free 1
        have q2 : W2.cell? ⟨w.heap.size + 1, 2, none⟩ = some (.slice none 0 0) := H2.out.x4.cell 2
        have z2 : W2.frozen? ⟨w.heap.size + 1, 2, none⟩ = false := H2.out.x4.free 2
        have q3 : W2.cell? ⟨w.heap.size + 1, 3, none⟩ = some (.slice none 0 0) := H2.out.x4.cell 3
        have z3 : W2.frozen? ⟨w.heap.size + 1, 3, none⟩ = false := H2.out.x4.free 3
        go_wp2_with fail
        refine bodyPost_ret (v := .agg #[.int .i64 0, .bool false, .slice none 0 0, .slice none 0 0]) (by simp [results, Try.results75, go_sem, q0, q1, q2, q3]) rfl ?_
        have hF4 : Fr (· = w.heap.size + 1) W2 ((((W2.setCell ⟨w.heap.size + 1, 0, none⟩ (.int .i64 0)).setCell ⟨w.heap.size + 1, 1, none⟩ (.bool false)).setCell ⟨w.heap.size + 1, 2, none⟩ (.slice none 0 0)).setCell ⟨w.heap.size + 1, 3, none⟩ (.slice none 0 0)) := (((Fr.one).then Fr.one).then Fr.one).then Fr.one
        obtain ⟨a1, a2, a3⟩ := H2.out.outF H2.out.x4 (Nat.le_succ _) hF4
        exact ⟨_, rfl, by rw [HT.out.1]; exact a1, by rw [HT.out.2]; exact a3 _ _ H2.out.keys, a2⟩
      · have hz4 : (d == 4) = false := beq_eq_false_iff_ne.2 h4
        by_cases h7 : d = 7
        · subst h7
          obtain ⟨l, r, e1, _, e3, e4⟩ := split_at (HV.out (by simp)) HDUP.out
          have HT : Hid (rowN 7 n row = row ∧ keysN V 7 n row = (n :: r).map V) := hid ⟨rfl, by unfold keysN; rw [if_pos rfl, e3]⟩
          have e5 : row = l ++ (n :: r) := by rw [e1] <;> simp
          have HLst : Hid (Lst W1 Lb ns V (l ++ (n :: r))) := hid (e5 ▸ H1.out.ring.lst)
          have HLL : Hid ((l ++ (n :: r)).length ≤ 1099511627776) := hid (by rw [← e5]; exact HL.out)
          clear e1 e3 e4 e5
          have HEACH := each_on W1 Lb ns l (n :: r) V HLst.out HLL.out
          have HE := hid HEACH
          clear HEACH
          go_wp2_with fail
          refine HE.out.mono ?_
          rintro e W2 ⟨kv, rfl, hR, hB⟩
          obtain ⟨KA, KC, rfl⟩ := Kd.R_slice hR
          have H2 := hid (H1.out.below hB)
          have HR2 : Hid (Ro W2 w.heap.size (.slice KA ((n :: r).map V).length KC) ((n :: r).map V)) := hid (Kd.R_lower hR (by have := H1.out.lt; omega))
          clear hR hB H1 k1 HS1 HE
          obtain ⟨KN, hKN⟩ : ∃ KN, ((n :: r).map V).length = KN := ⟨_, rfl⟩
          rw [hKN] at HR2 ⊢
          clear hKN
          have y0 : W2.cell? ⟨w.heap.size + 2, 2, none⟩ = some (.slice none 0 0) := H2.out.x5.cell 2
          have y1 : W2.frozen? ⟨w.heap.size + 2, 2, none⟩ = false := H2.out.x5.free 2
          have H3 := hid (H2.out.keyed (.slice KA KN KC) HR2.out)
          clear H2
          go_upto_region 14 with fail
          clear y0 y1
          generalize W2.setCell ⟨w.heap.size + 2, 2, none⟩ (.slice KA KN KC) = W3 at H3 ⊢
          have p0 : W3.cell? ⟨w.heap.size + 2, 0, none⟩ = some (.int .i64 0) := H3.out.x5.cell 0
          have p1 : W3.cell? ⟨w.heap.size + 2, 1, none⟩ = some (.bool false) := H3.out.x5.cell 1
          have p2 : W3.cell? ⟨w.heap.size + 2, 2, none⟩ = some (.slice KA KN KC) := H3.out.x5.cell 2
          have p3 : W3.cell? ⟨w.heap.size + 2, 3, none⟩ = some (.slice none 0 0) := H3.out.x5.cell 3
          have q0 : W3.cell? ⟨w.heap.size + 1, 0, none⟩ = some (.int .i64 0) := H3.out.x4.cell 0
          have z0 : W3.frozen? ⟨w.heap.size + 1, 0, none⟩ = false := H3.out.x4.free 0
          have q1 : W3.cell? ⟨w.heap.size + 1, 1, none⟩ = some (.bool false) := H3.out.x4.cell 1
          have z1 : W3.frozen? ⟨w.heap.size + 1, 1, none⟩ = false := H3.out.x4.free 1
          have q2 : W3.cell? ⟨w.heap.size + 1, 2, none⟩ = some (.slice none 0 0) := H3.out.x4.cell 2
          have z2 : W3.frozen? ⟨w.heap.size + 1, 2, none⟩ = false := H3.out.x4.free 2
          have q3 : W3.cell? ⟨w.heap.size + 1, 3, none⟩ = some (.slice none 0 0) := H3.out.x4.cell 3
          have z3 : W3.frozen? ⟨w.heap.size + 1, 3, none⟩ = false := H3.out.x4.free 3
          go_wp2_with fail
          refine bodyPost_ret (v := .agg #[.int .i64 0, .bool false, .slice KA KN KC, .slice none 0 0]) (by simp [results, Try.results75, go_sem, q0, q1, q2, q3]) rfl ?_
          have hF4 : Fr (· = w.heap.size + 1) W3 ((((W3.setCell ⟨w.heap.size + 1, 0, none⟩ (.int .i64 0)).setCell ⟨w.heap.size + 1, 1, none⟩ (.bool false)).setCell ⟨w.heap.size + 1, 2, none⟩ (.slice KA KN KC)).setCell ⟨w.heap.size + 1, 3, none⟩ (.slice none 0 0)) := (((Fr.one).then Fr.one).then Fr.one).then Fr.one
          obtain ⟨a1, a2, a3⟩ := H3.out.outF H3.out.x4 (Nat.le_succ _) hF4
          exact ⟨_, rfl, by rw [HT.out.1]; exact a1, by rw [HT.out.2]; exact a3 _ _ H3.out.keys, a2⟩
        · have hz7 : (d == 7) = false := beq_eq_false_iff_ne.2 h7
          by_cases h8 : d = 8
          · subst h8
            obtain ⟨l, r, e1, _, e3, e4⟩ := split_at (HV.out (by simp)) HDUP.out
            have HT : Hid (rowN 8 n row = row ∧ keysN V 8 n row = ((l ++ [n]).map V).reverse) := hid ⟨rfl, by unfold keysN; rw [if_neg (by decide), if_pos rfl, e4]⟩
            have e5 : row = (l ++ [n]) ++ r := by rw [e1] <;> simp
            have HLst : Hid (Lst W1 Lb ns V ((l ++ [n]) ++ r)) := hid (e5 ▸ H1.out.ring.lst)
            have HLL : Hid (((l ++ [n]) ++ r).length ≤ 1099511627776) := hid (by rw [← e5]; exact HL.out)
            clear e1 e3 e4 e5
            have HEACH := each_back W1 Lb ns (l ++ [n]) r V HLst.out HLL.out
            rw [show pv (l ++ [n]).getLast? = .pointer (some ⟨n, 0, none⟩) from by rw [last_app]; rfl] at HEACH
            have HE := hid HEACH
            clear HEACH
            go_wp2_with fail
            refine HE.out.mono ?_
            rintro e W2 ⟨kv, rfl, hR, hB⟩
            obtain ⟨KA, KC, rfl⟩ := Kd.R_slice hR
            have H2 := hid (H1.out.below hB)
            have HR2 : Hid (Ro W2 w.heap.size (.slice KA (((l ++ [n]).map V).reverse).length KC) (((l ++ [n]).map V).reverse)) := hid (Kd.R_lower hR (by have := H1.out.lt; omega))
            clear hR hB H1 k1 HS1 HE
            obtain ⟨KN, hKN⟩ : ∃ KN, (((l ++ [n]).map V).reverse).length = KN := ⟨_, rfl⟩
            rw [hKN] at HR2 ⊢
            clear hKN
            have y0 : W2.cell? ⟨w.heap.size + 2, 2, none⟩ = some (.slice none 0 0) := H2.out.x5.cell 2
            have y1 : W2.frozen? ⟨w.heap.size + 2, 2, none⟩ = false := H2.out.x5.free 2
            have H3 := hid (H2.out.keyed (.slice KA KN KC) HR2.out)
            clear H2
            go_upto_region 14 with fail
            clear y0 y1
            generalize W2.setCell ⟨w.heap.size + 2, 2, none⟩ (.slice KA KN KC) = W3 at H3 ⊢
            have p0 : W3.cell? ⟨w.heap.size + 2, 0, none⟩ = some (.int .i64 0) := H3.out.x5.cell 0
            have p1 : W3.cell? ⟨w.heap.size + 2, 1, none⟩ = some (.bool false) := H3.out.x5.cell 1
            have p2 : W3.cell? ⟨w.heap.size + 2, 2, none⟩ = some (.slice KA KN KC) := H3.out.x5.cell 2
            have p3 : W3.cell? ⟨w.heap.size + 2, 3, none⟩ = some (.slice none 0 0) := H3.out.x5.cell 3
            have q0 : W3.cell? ⟨w.heap.size + 1, 0, none⟩ = some (.int .i64 0) := H3.out.x4.cell 0
            have z0 : W3.frozen? ⟨w.heap.size + 1, 0, none⟩ = false := H3.out.x4.free 0
            have q1 : W3.cell? ⟨w.heap.size + 1, 1, none⟩ = some (.bool false) := H3.out.x4.cell 1
            have z1 : W3.frozen? ⟨w.heap.size + 1, 1, none⟩ = false := H3.out.x4.free 1
            have q2 : W3.cell? ⟨w.heap.size + 1, 2, none⟩ = some (.slice none 0 0) := H3.out.x4.cell 2
            have z2 : W3.frozen? ⟨w.heap.size + 1, 2, none⟩ = false := H3.out.x4.free 2
            have q3 : W3.cell? ⟨w.heap.size + 1, 3, none⟩ = some (.slice none 0 0) := H3.out.x4.cell 3
            have z3 : W3.frozen? ⟨w.heap.size + 1, 3, none⟩ = false := H3.out.x4.free 3
            go_wp2_with fail
            refine bodyPost_ret (v := .agg #[.int .i64 0, .bool false, .slice KA KN KC, .slice none 0 0]) (by simp [results, Try.results75, go_sem, q0, q1, q2, q3]) rfl ?_
            have hF4 : Fr (· = w.heap.size + 1) W3 ((((W3.setCell ⟨w.heap.size + 1, 0, none⟩ (.int .i64 0)).setCell ⟨w.heap.size + 1, 1, none⟩ (.bool false)).setCell ⟨w.heap.size + 1, 2, none⟩ (.slice KA KN KC)).setCell ⟨w.heap.size + 1, 3, none⟩ (.slice none 0 0)) := (((Fr.one).then Fr.one).then Fr.one).then Fr.one
            obtain ⟨a1, a2, a3⟩ := H3.out.outF H3.out.x4 (Nat.le_succ _) hF4
            exact ⟨_, rfl, by rw [HT.out.1]; exact a1, by rw [HT.out.2]; exact a3 _ _ H3.out.keys, a2⟩
          · have hz8 : (d == 8) = false := beq_eq_false_iff_ne.2 h8
            have HT : Hid (rowN d n row = row ∧ keysN V d n row = []) := hid ⟨by simp [rowN, h2, h3, h4], by simp [keysN, h7, h8]⟩
            go_upto_region 14 with fail
            clear k1 HS1
            have p0 : W1.cell? ⟨w.heap.size + 2, 0, none⟩ = some (.int .i64 0) := H1.out.x5.cell 0
            have p1 : W1.cell? ⟨w.heap.size + 2, 1, none⟩ = some (.bool false) := H1.out.x5.cell 1
            have p2 : W1.cell? ⟨w.heap.size + 2, 2, none⟩ = some (.slice none 0 0) := H1.out.x5.cell 2
            have p3 : W1.cell? ⟨w.heap.size + 2, 3, none⟩ = some (.slice none 0 0) := H1.out.x5.cell 3
            have q0 : W1.cell? ⟨w.heap.size + 1, 0, none⟩ = some (.int .i64 0) := H1.out.x4.cell 0
            have z0 : W1.frozen? ⟨w.heap.size + 1, 0, none⟩ = false := H1.out.x4.free 0
            have q1 : W1.cell? ⟨w.heap.size + 1, 1, none⟩ = some (.bool false) := H1.out.x4.cell 1
            have z1 : W1.frozen? ⟨w.heap.size + 1, 1, none⟩ = false := H1.out.x4.free 1
            have q2 : W1.cell? ⟨w.heap.size + 1, 2, none⟩ = some (.slice none 0 0) := H1.out.x4.cell 2
            have z2 : W1.frozen? ⟨w.heap.size + 1, 2, none⟩ = false := H1.out.x4.free 2
            have q3 : W1.cell? ⟨w.heap.size + 1, 3, none⟩ = some (.slice none 0 0) := H1.out.x4.cell 3
            have z3 : W1.frozen? ⟨w.heap.size + 1, 3, none⟩ = false := H1.out.x4.free 3
            go_wp2_with fail
            refine bodyPost_ret (v := .agg #[.int .i64 0, .bool false, .slice none 0 0, .slice none 0 0]) (by simp [results, Try.results75, go_sem, q0, q1, q2, q3]) rfl ?_
            have hF4 : Fr (· = w.heap.size + 1) W1 ((((W1.setCell ⟨w.heap.size + 1, 0, none⟩ (.int .i64 0)).setCell ⟨w.heap.size + 1, 1, none⟩ (.bool false)).setCell ⟨w.heap.size + 1, 2, none⟩ (.slice none 0 0)).setCell ⟨w.heap.size + 1, 3, none⟩ (.slice none 0 0)) := (((Fr.one).then Fr.one).then Fr.one).then Fr.one
            obtain ⟨a1, a2, a3⟩ := H1.out.outF H1.out.x4 (Nat.le_succ _) hF4
            exact ⟨_, rfl, by rw [HT.out.1]; exact a1, by rw [HT.out.2]; exact a3 _ _ H1.out.keys, a2⟩
end Go.Proofs.Ytmhnhfmkcipcpaa.Lists

namespace Go.Proofs.Ytmhnhfmkcipcpaa.Lists
open Go Go.RowKit Go.Proofs.Ytmhnhfmkcipcpaa.Hk Go.Proofs.Ytmhnhfmkcipcpaa.ListPure Go.Proofs.Ytmhnhfmkcipcpaa.Heap Go.Proofs.YtmhnhfmkcipcpaaW.PrintWords Go.Proofs.YtmhnhfmkcipcpaaW.PrintLast Go.Proofs.YtmhnhfmkcipcpaaW.PrintMore
theorem Nd.after {base Rb Lb s : Nat} {w0 W W1 : World} {ns row row' : List Nat} {V : Nat → Int} {vn kv : Value} {ks : List Int} (h : Nd base Rb Lb s w0 W ns V row vn kv ks) (hR : Ring base Rb Lb W1 ns V row' vn) (hF : Fr (Zr base W) W W1) : Nd base Rb Lb s w0 W1 ns V row' vn kv ks := by
  refine ⟨hR, zr_trans h.fr hF, h.x4.fr hF (zr_not h.x4 (by decide) (by decide) (by decide) (by decide)), h.x5.fr hF (zr_not h.x5 (by decide) (by decide) (by decide) (by decide)), Ro.fr h.keys hF (fun k hk => ?_), h.s0, Nat.lt_of_lt_of_le h.lt hF.size⟩
  obtain ⟨inner, ho⟩ := Kd.R_own h.keys
  obtain ⟨cs, hc⟩ := own_typed ho k hk
  exact zr_not hc (by decide) (by decide) (by decide) (by decide)
set_option maxHeartbeats 16000000 in
set_option maxRecDepth 100000 in
theorem do5_any (base Rb Lb : Nat) (w : World) (ns : List Nat) (V : Nat → Int) (row : List Nat) (vn : Value) (o key val : Int) (hR : Ring base Rb Lb w ns V row vn) (hl : row.length ≤ 1099511627776) :
    Calls Try.prog 41 #[.pointer (some ⟨Rb, 0, none⟩), .agg #[.int .i64 o, .int .i64 5, .int .i64 key, .int .i64 val]] w fun e w' => ∃ kv, e = .returned (.agg #[.int .i64 0, .bool false, kv, .slice none 0 0]) ∧
      Ring base Rb Lb w' ns V row vn ∧ Ro w' w.heap.size kv (row.map V) ∧ Fr (Zr base w) w w' := by
  have H0 := hid (Nd.start hR #[.int .i64 o, .int .i64 5, .int .i64 key, .int .i64 val])
  have HS : Hid (Blk (((w.alloc (.cells #[.int .i64 o, .int .i64 5, .int .i64 key, .int .i64 val] 27)).alloc (.cells (F4k (.slice none 0 0)) 34)).alloc (.cells (F4k (.slice none 0 0)) 34)) w.heap.size #[.int .i64 o, .int .i64 5, .int .i64 key, .int .i64 val] 27) := hid (((Blk.new w _ _).alloc _).alloc _)
  have HL := hid hl
  clear hR hl
  go_enter Try.func41, Try.ntmps41
  go_upto_region 2 with fail
  change Code.wp _ _ _ _ (((w.alloc (.cells #[.int .i64 o, .int .i64 5, .int .i64 key, .int .i64 val] 27)).alloc (.cells (F4k (.slice none 0 0)) 34)).alloc (.cells (F4k (.slice none 0 0)) 34))
  generalize ((w.alloc (.cells #[.int .i64 o, .int .i64 5, .int .i64 key, .int .i64 val] 27)).alloc (.cells (F4k (.slice none 0 0)) 34)).alloc (.cells (F4k (.slice none 0 0)) 34) = W1 at H0 HS ⊢
  have k1 : W1.cell? ⟨w.heap.size, 1, none⟩ = some (.int .i64 5) := HS.out.cell 1
  have l0 : W1.cell? ⟨Rb, 0, none⟩ = some (.pointer (some ⟨Lb, 0, none⟩)) := H0.out.ring.blk.cell 0
  obtain ⟨u0, hu0⟩ : ∃ u, pv row.head? = .pointer u := by cases row.head? <;> exact ⟨_, rfl⟩
  have l1 : W1.cell? ⟨Lb, 0, none⟩ = some (.pointer u0) := by
    obtain ⟨P, X, hM, _⟩ := H0.out.ring.lst
    rw [← hu0]
    exact hM.lb.cell 0
  have HE := each_on W1 Lb ns [] row V H0.out.ring.lst HL.out
  rw [hu0] at HE
  have HE := hid HE
  clear hu0
  go_wp2_with fail
  refine HE.out.mono ?_
  rintro e W2 ⟨kv, rfl, hR, hB⟩
  obtain ⟨KA, KC, rfl⟩ := Kd.R_slice hR
  have H2 := hid (H0.out.below hB)
  have HR2 : Hid (Ro W2 w.heap.size (.slice KA (row.map V).length KC) (row.map V)) := hid (Kd.R_lower hR (by have := H0.out.lt; omega))
  clear hR hB H0 k1 HS HE l0 l1
  obtain ⟨KN, hKN⟩ : ∃ KN, (row.map V).length = KN := ⟨_, rfl⟩
  rw [hKN] at HR2 ⊢
  clear hKN
  have y0 : W2.cell? ⟨w.heap.size + 2, 2, none⟩ = some (.slice none 0 0) := H2.out.x5.cell 2
  have y1 : W2.frozen? ⟨w.heap.size + 2, 2, none⟩ = false := H2.out.x5.free 2
  have H3 := hid (H2.out.keyed (.slice KA KN KC) HR2.out)
  clear H2
  go_upto_region 17 with fail
  clear y0 y1
  generalize W2.setCell ⟨w.heap.size + 2, 2, none⟩ (.slice KA KN KC) = W3 at H3 ⊢
  have p0 : W3.cell? ⟨w.heap.size + 2, 0, none⟩ = some (.int .i64 0) := H3.out.x5.cell 0
  have p1 : W3.cell? ⟨w.heap.size + 2, 1, none⟩ = some (.bool false) := H3.out.x5.cell 1
  have p2 : W3.cell? ⟨w.heap.size + 2, 2, none⟩ = some (.slice KA KN KC) := H3.out.x5.cell 2
  have p3 : W3.cell? ⟨w.heap.size + 2, 3, none⟩ = some (.slice none 0 0) := H3.out.x5.cell 3
  have q0 : W3.cell? ⟨w.heap.size + 1, 0, none⟩ = some (.int .i64 0) := H3.out.x4.cell 0
  have z0 : W3.frozen? ⟨w.heap.size + 1, 0, none⟩ = false := H3.out.x4.free 0
  have q1 : W3.cell? ⟨w.heap.size + 1, 1, none⟩ = some (.bool false) := H3.out.x4.cell 1
  have z1 : W3.frozen? ⟨w.heap.size + 1, 1, none⟩ = false := H3.out.x4.free 1
  have q2 : W3.cell? ⟨w.heap.size + 1, 2, none⟩ = some (.slice none 0 0) := H3.out.x4.cell 2
  have z2 : W3.frozen? ⟨w.heap.size + 1, 2, none⟩ = false := H3.out.x4.free 2
  have q3 : W3.cell? ⟨w.heap.size + 1, 3, none⟩ = some (.slice none 0 0) := H3.out.x4.cell 3
  have z3 : W3.frozen? ⟨w.heap.size + 1, 3, none⟩ = false := H3.out.x4.free 3
  go_wp2_with fail
  refine bodyPost_ret (v := .agg #[.int .i64 0, .bool false, .slice KA KN KC, .slice none 0 0]) (by simp [results, Try.results41, go_sem, q0, q1, q2, q3]) rfl ?_
  have hF4 : Fr (· = w.heap.size + 1) W3 ((((W3.setCell ⟨w.heap.size + 1, 0, none⟩ (.int .i64 0)).setCell ⟨w.heap.size + 1, 1, none⟩ (.bool false)).setCell ⟨w.heap.size + 1, 2, none⟩ (.slice KA KN KC)).setCell ⟨w.heap.size + 1, 3, none⟩ (.slice none 0 0)) := (((Fr.one).then Fr.one).then Fr.one).then Fr.one
  obtain ⟨a1, a2, a3⟩ := H3.out.outF H3.out.x4 (Nat.le_succ _) hF4
  exact ⟨_, rfl, a1, a3 _ _ H3.out.keys, a2⟩
set_option maxHeartbeats 16000000 in
set_option maxRecDepth 100000 in
theorem do6_any (base Rb Lb : Nat) (w : World) (ns : List Nat) (V : Nat → Int) (row : List Nat) (vn : Value) (o key val : Int) (hR : Ring base Rb Lb w ns V row vn) (hl : row.length ≤ 1099511627776) :
    Calls Try.prog 41 #[.pointer (some ⟨Rb, 0, none⟩), .agg #[.int .i64 o, .int .i64 6, .int .i64 key, .int .i64 val]] w fun e w' => ∃ kv, e = .returned (.agg #[.int .i64 0, .bool false, kv, .slice none 0 0]) ∧
      Ring base Rb Lb w' ns V row vn ∧ Ro w' w.heap.size kv ((row.map V).reverse) ∧ Fr (Zr base w) w w' := by
  have H0 := hid (Nd.start hR #[.int .i64 o, .int .i64 6, .int .i64 key, .int .i64 val])
  have HS : Hid (Blk (((w.alloc (.cells #[.int .i64 o, .int .i64 6, .int .i64 key, .int .i64 val] 27)).alloc (.cells (F4k (.slice none 0 0)) 34)).alloc (.cells (F4k (.slice none 0 0)) 34)) w.heap.size #[.int .i64 o, .int .i64 6, .int .i64 key, .int .i64 val] 27) := hid (((Blk.new w _ _).alloc _).alloc _)
  have HL := hid hl
  clear hR hl
  go_enter Try.func41, Try.ntmps41
  go_upto_region 2 with fail
  change Code.wp _ _ _ _ (((w.alloc (.cells #[.int .i64 o, .int .i64 6, .int .i64 key, .int .i64 val] 27)).alloc (.cells (F4k (.slice none 0 0)) 34)).alloc (.cells (F4k (.slice none 0 0)) 34))
  generalize ((w.alloc (.cells #[.int .i64 o, .int .i64 6, .int .i64 key, .int .i64 val] 27)).alloc (.cells (F4k (.slice none 0 0)) 34)).alloc (.cells (F4k (.slice none 0 0)) 34) = W1 at H0 HS ⊢
  have k1 : W1.cell? ⟨w.heap.size, 1, none⟩ = some (.int .i64 6) := HS.out.cell 1
  have l0 : W1.cell? ⟨Rb, 0, none⟩ = some (.pointer (some ⟨Lb, 0, none⟩)) := H0.out.ring.blk.cell 0
  obtain ⟨u0, hu0⟩ : ∃ u, pv row.getLast? = .pointer u := by cases row.getLast? <;> exact ⟨_, rfl⟩
  have l1 : W1.cell? ⟨Lb, 1, none⟩ = some (.pointer u0) := by
    obtain ⟨P, X, hM, _⟩ := H0.out.ring.lst
    rw [← hu0]
    exact hM.lb.cell 1
  have HE := each_back W1 Lb ns row [] V (by rw [List.append_nil]; exact H0.out.ring.lst) (by rw [List.append_nil]; exact HL.out)
  rw [hu0] at HE
  have HE := hid HE
  clear hu0
  go_wp2_with fail
  refine HE.out.mono ?_
  rintro e W2 ⟨kv, rfl, hR, hB⟩
  obtain ⟨KA, KC, rfl⟩ := Kd.R_slice hR
  have H2 := hid (H0.out.below hB)
  have HR2 : Hid (Ro W2 w.heap.size (.slice KA ((row.map V).reverse).length KC) ((row.map V).reverse)) := hid (Kd.R_lower hR (by have := H0.out.lt; omega))
  clear hR hB H0 k1 HS HE l0 l1
  obtain ⟨KN, hKN⟩ : ∃ KN, ((row.map V).reverse).length = KN := ⟨_, rfl⟩
  rw [hKN] at HR2 ⊢
  clear hKN
  have y0 : W2.cell? ⟨w.heap.size + 2, 2, none⟩ = some (.slice none 0 0) := H2.out.x5.cell 2
  have y1 : W2.frozen? ⟨w.heap.size + 2, 2, none⟩ = false := H2.out.x5.free 2
  have H3 := hid (H2.out.keyed (.slice KA KN KC) HR2.out)
  clear H2
  go_upto_region 17 with fail
  clear y0 y1
  generalize W2.setCell ⟨w.heap.size + 2, 2, none⟩ (.slice KA KN KC) = W3 at H3 ⊢
  have p0 : W3.cell? ⟨w.heap.size + 2, 0, none⟩ = some (.int .i64 0) := H3.out.x5.cell 0
  have p1 : W3.cell? ⟨w.heap.size + 2, 1, none⟩ = some (.bool false) := H3.out.x5.cell 1
  have p2 : W3.cell? ⟨w.heap.size + 2, 2, none⟩ = some (.slice KA KN KC) := H3.out.x5.cell 2
  have p3 : W3.cell? ⟨w.heap.size + 2, 3, none⟩ = some (.slice none 0 0) := H3.out.x5.cell 3
  have q0 : W3.cell? ⟨w.heap.size + 1, 0, none⟩ = some (.int .i64 0) := H3.out.x4.cell 0
  have z0 : W3.frozen? ⟨w.heap.size + 1, 0, none⟩ = false := H3.out.x4.free 0
  have q1 : W3.cell? ⟨w.heap.size + 1, 1, none⟩ = some (.bool false) := H3.out.x4.cell 1
  have z1 : W3.frozen? ⟨w.heap.size + 1, 1, none⟩ = false := H3.out.x4.free 1
  have q2 : W3.cell? ⟨w.heap.size + 1, 2, none⟩ = some (.slice none 0 0) := H3.out.x4.cell 2
  have z2 : W3.frozen? ⟨w.heap.size + 1, 2, none⟩ = false := H3.out.x4.free 2
  have q3 : W3.cell? ⟨w.heap.size + 1, 3, none⟩ = some (.slice none 0 0) := H3.out.x4.cell 3
  have z3 : W3.frozen? ⟨w.heap.size + 1, 3, none⟩ = false := H3.out.x4.free 3
  go_wp2_with fail
  refine bodyPost_ret (v := .agg #[.int .i64 0, .bool false, .slice KA KN KC, .slice none 0 0]) (by simp [results, Try.results41, go_sem, q0, q1, q2, q3]) rfl ?_
  have hF4 : Fr (· = w.heap.size + 1) W3 ((((W3.setCell ⟨w.heap.size + 1, 0, none⟩ (.int .i64 0)).setCell ⟨w.heap.size + 1, 1, none⟩ (.bool false)).setCell ⟨w.heap.size + 1, 2, none⟩ (.slice KA KN KC)).setCell ⟨w.heap.size + 1, 3, none⟩ (.slice none 0 0)) := (((Fr.one).then Fr.one).then Fr.one).then Fr.one
  obtain ⟨a1, a2, a3⟩ := H3.out.outF H3.out.x4 (Nat.le_succ _) hF4
  exact ⟨_, rfl, a1, a3 _ _ H3.out.keys, a2⟩
set_option maxHeartbeats 16000000 in
set_option maxRecDepth 100000 in
theorem doNode_any (base Rb Lb : Nat) (w : World) (ns : List Nat) (V : Nat → Int) (row : List Nat) (vn : Value) (o d key : Int) (k n : Nat) (hR : Ring base Rb Lb w ns V row vn) (hl : row.length ≤ 1099511627776) (hk : ns[k]? = some n) (hv : (d = 2 ∨ d = 7 ∨ d = 8) → n ∈ row) (hv2 : (d = 3 ∨ d = 4) → n ∉ row) (hlN : ns.length ≤ 1099511627776) (h0 : ¬ d = 0) (h1 : ¬ d = 1) (h5 : ¬ d = 5) (h6 : ¬ d = 6) (h9 : ¬ d = 9) :
    Calls Try.prog 41 #[.pointer (some ⟨Rb, 0, none⟩), .agg #[.int .i64 o, .int .i64 d, .int .i64 key, .int .i64 k]] w fun e w' => ∃ kv, e = .returned (.agg #[.int .i64 0, .bool false, kv, .slice none 0 0]) ∧
      Ring base Rb Lb w' ns V (rowN d n row) vn ∧ Ro w' w.heap.size kv (keysN V d n row) ∧ Fr (Zr base w) w w' := by
  have hkl := (List.getElem?_eq_some_iff.1 hk).1
  obtain ⟨g, c, rfl, _, _, _⟩ := Kd.R_form hR.nod (by omega)
  have HK := hid (And.intro hk (And.intro hv (And.intro hv2 hlN)))
  obtain ⟨m, hm⟩ : ∃ m, ns.length = m := ⟨_, rfl⟩
  have HM := hid hm
  rw [hm] at hkl hlN
  clear hm hk hv hv2
  have hkm : (k : Int) < (m : Int) := by omega
  have hk0 : (0 : Int) ≤ (k : Int) := Int.natCast_nonneg _
  have hz0 : (d == 0) = false := beq_eq_false_iff_ne.2 h0
  have hz1 : (d == 1) = false := beq_eq_false_iff_ne.2 h1
  have hz5 : (d == 5) = false := beq_eq_false_iff_ne.2 h5
  have hz6 : (d == 6) = false := beq_eq_false_iff_ne.2 h6
  have hz9 : (d == 9) = false := beq_eq_false_iff_ne.2 h9
  have H0 := hid (Nd.start hR #[.int .i64 o, .int .i64 d, .int .i64 key, .int .i64 k])
  have HS : Hid (Blk (((w.alloc (.cells #[.int .i64 o, .int .i64 d, .int .i64 key, .int .i64 k] 27)).alloc (.cells (F4k (.slice none 0 0)) 34)).alloc (.cells (F4k (.slice none 0 0)) 34)) w.heap.size #[.int .i64 o, .int .i64 d, .int .i64 key, .int .i64 k] 27) := hid (((Blk.new w _ _).alloc _).alloc _)
  have HL := hid hl
  clear hR hl
  go_enter Try.func41, Try.ntmps41
  go_upto_region 2 with fail
  change Code.wp _ _ _ _ (((w.alloc (.cells #[.int .i64 o, .int .i64 d, .int .i64 key, .int .i64 k] 27)).alloc (.cells (F4k (.slice none 0 0)) 34)).alloc (.cells (F4k (.slice none 0 0)) 34))
  generalize ((w.alloc (.cells #[.int .i64 o, .int .i64 d, .int .i64 key, .int .i64 k] 27)).alloc (.cells (F4k (.slice none 0 0)) 34)).alloc (.cells (F4k (.slice none 0 0)) 34) = W1 at H0 HS ⊢
  have k1 : W1.cell? ⟨w.heap.size, 1, none⟩ = some (.int .i64 d) := HS.out.cell 1
  have l0 : W1.cell? ⟨Rb, 0, none⟩ = some (.pointer (some ⟨Lb, 0, none⟩)) := H0.out.ring.blk.cell 0
  have r1 : W1.cell? ⟨Rb, 1, none⟩ = some (.slice (some ⟨g, 0, none⟩) m c) := by have := H0.out.ring.blk.cell 1; rw [HM.out] at this; exact this
  have k3 : W1.cell? ⟨w.heap.size, 3, none⟩ = some (.int .i64 k) := HS.out.cell 3
  go_upto_region 3 with fail
  go_quiet (fail)
  have H1 := hid (H0.out.drewN nq)
  have HS1 := hid (HS.out.drewN nq)
  clear H0 HS r1 k3 k1 l0
  generalize W1.drewN nq = W2 at H1 HS1 ⊢
  have k0 : W2.cell? ⟨w.heap.size, 0, none⟩ = some (.int .i64 o) := HS1.out.cell 0
  have k1 : W2.cell? ⟨w.heap.size, 1, none⟩ = some (.int .i64 d) := HS1.out.cell 1
  have k2 : W2.cell? ⟨w.heap.size, 2, none⟩ = some (.int .i64 key) := HS1.out.cell 2
  have k3 : W2.cell? ⟨w.heap.size, 3, none⟩ = some (.int .i64 k) := HS1.out.cell 3
  go_wp2_with fail
  refine (node_any base Rb Lb W2 ns V row _ o d key k n H1.out.ring HK.out.1 HK.out.2.1 HK.out.2.2.1 HL.out HK.out.2.2.2).mono ?_
  rintro e W3 ⟨kv, rfl, hR3, hK3, hF3⟩
  obtain ⟨KA, KC, rfl⟩ := Kd.R_slice hK3
  have H3 : Hid (Nd base Rb Lb w.heap.size w W3 ns V (rowN d n row) _ (.slice none 0 0) [] ∧ Ro W3 w.heap.size (.slice KA (keysN V d n row).length KC) (keysN V d n row)) := hid ⟨H1.out.after hR3 hF3, Kd.R_lower hK3 (by have := H1.out.lt; omega)⟩
  clear hR3 hK3 hF3 H1 HS1 k0 k1 k2 k3
  obtain ⟨KN, hKN⟩ : ∃ KN, (keysN V d n row).length = KN := ⟨_, rfl⟩
  rw [hKN] at H3 ⊢
  clear hKN
  have q0 : W3.cell? ⟨w.heap.size + 1, 0, none⟩ = some (.int .i64 0) := H3.out.1.x4.cell 0
  have z0 : W3.frozen? ⟨w.heap.size + 1, 0, none⟩ = false := H3.out.1.x4.free 0
  have q1 : W3.cell? ⟨w.heap.size + 1, 1, none⟩ = some (.bool false) := H3.out.1.x4.cell 1
  have z1 : W3.frozen? ⟨w.heap.size + 1, 1, none⟩ = false := H3.out.1.x4.free 1
  have q2 : W3.cell? ⟨w.heap.size + 1, 2, none⟩ = some (.slice none 0 0) := H3.out.1.x4.cell 2
  have z2 : W3.frozen? ⟨w.heap.size + 1, 2, none⟩ = false := H3.out.1.x4.free 2
  have q3 : W3.cell? ⟨w.heap.size + 1, 3, none⟩ = some (.slice none 0 0) := H3.out.1.x4.cell 3
  have z3 : W3.frozen? ⟨w.heap.size + 1, 3, none⟩ = false := H3.out.1.x4.free 3
  go_wp2_with fail
  refine bodyPost_ret (v := .agg #[.int .i64 0, .bool false, .slice KA KN KC, .slice none 0 0]) (by simp [results, Try.results41, go_sem, q0, q1, q2, q3]) rfl ?_
  have hF4 : Fr (· = w.heap.size + 1) W3 ((((W3.setCell ⟨w.heap.size + 1, 0, none⟩ (.int .i64 0)).setCell ⟨w.heap.size + 1, 1, none⟩ (.bool false)).setCell ⟨w.heap.size + 1, 2, none⟩ (.slice KA KN KC)).setCell ⟨w.heap.size + 1, 3, none⟩ (.slice none 0 0)) := (((Fr.one).then Fr.one).then Fr.one).then Fr.one
  obtain ⟨a1, a2, a3⟩ := H3.out.1.outF H3.out.1.x4 (Nat.le_succ _) hF4
  exact ⟨_, rfl, a1, a3 _ _ H3.out.2, a2⟩
end Go.Proofs.Ytmhnhfmkcipcpaa.Lists

namespace Go.Proofs.Ytmhnhfmkcipcpaa.Lists
open Go Go.RowKit Go.Deep Go.Proofs.Ytmhnhfmkcipcpaa.Hk Go.Proofs.Ytmhnhfmkcipcpaa.ListPure Go.Proofs.Ytmhnhfmkcipcpaa.Heap Go.Proofs.YtmhnhfmkcipcpaaW.PrintWords Go.Proofs.YtmhnhfmkcipcpaaW.PrintLast Go.Proofs.YtmhnhfmkcipcpaaW.PrintMore
def rd16.T : Bool × List (List Nat × List Nat) := (true, [([], []), ([], []), ([1], [1]), ([2], [2]), ([3], [3]), ([], []), ([5], [5]), ([6], [6]), ([7], [7]), ([8], [8]), ([4, 9], [4, 9]), ([0, 0, 1, 2, 3, 4, 5, 6, 7, 8, 9, 10], [0]), ([11, 0, 1, 2, 3, 4, 5, 6, 7, 8, 9, 10], [11]), ([12, 10, 10, 0, 1, 2, 3, 4, 5, 6, 7, 8, 9, 10], [10, 12])])
def rd16.B : List Nat := [0, 0, 2, 6, 14, 0, 32, 96, 224, 480, 1022, 2047, 4095, 8191]
theorem rd16.tab : rtab .any (opsOf Try.f41 16) = rd16.T := by kernel_rfl
theorem rd16.bits : waitsOk rd16.T.2 rd16.B = true := by kernel_rfl
theorem infoPn : (Try.prog.info? 110).map (fun i => (i.zero, i.size, i.bytes)) = some (some (.pointer none), 1, 8) := by kernel_rfl
theorem undPn : Try.prog.underlying 68 = some (.slice 110) := by kernel_rfl
/-- Behind a node put to the ring's nodes, ahead of the store into the ring. -/
structure Gr (base Rb Lb s : Nat) (w0 W3 W : World) (ns' : List Nat) (V' : Nat → Int) (row : List Nat) (vn v4 : Value) : Prop where
  blk : Blk W Rb #[.pointer (some ⟨Lb, 0, none⟩), vn] 70
  lst : Lst W Lb ns' V' row
  nod : ptrK.R 110 W base (fun _ => True) v4 ns'
  fr : Fr (Zr base w0) w0 W
  off : ∀ b cs t, t ≠ 110 → Blk W3 b cs t → Blk W b cs t
  size : W3.heap.size ≤ W.heap.size
section
variable {base Rb Lb s q : Nat} {w0 Wd W3 W4 : World} {ns row : List Nat} {V V' : Nat → Int} {vn v4 kv : Value} {ks : List Int}
theorem grew (h : Nd base Rb Lb s w0 Wd ns V row vn kv ks) (hB : Below Wd.heap.size Wd W3) (hL : Lst W3 Lb (ns ++ [q]) V' row) (hR : ptrK.R 110 W4 base (fun _ => True) v4 (ns ++ [q])) (hg : W3.grownBy W4 vn.ownBlock) : Gr base Rb Lb s w0 W3 W4 (ns ++ [q]) V' row vn v4 := by
  have hF : Fr (fun k => some k = vn.ownBlock) W3 W4 := Fr.of_grown hg
  have hnod := Kd.R_below h.ring.nod hB
  have hT : ∀ g, some g = vn.ownBlock → ∃ cs, W3.heap[g]? = some (.cells cs 110 (0, 0)) := fun g e => by
    obtain ⟨inner, ho⟩ := Kd.R_own hnod
    exact own_typed ho g e.symm
  have hZ : ∀ e, 110 ≠ e → ∀ g, some g = vn.ownBlock → ∃ cs t, W3.heap[g]? = some (.cells cs t (0, 0)) ∧ t ≠ e := fun e hne g q => by
    obtain ⟨cs, hc⟩ := hT g q
    exact ⟨cs, _, hc, hne⟩
  obtain ⟨P, X, hM, hK, hD, hS⟩ := hL
  refine ⟨Stack.blk_fr (h.ring.blk.below hB h.ring.blk.lt) hF (hZ _ (by decide)), ⟨P, X, ⟨Stack.blk_fr hM.lb hF (hZ _ (by decide)), fun k hk => Stack.blk_fr (hM.nd k hk) hF (hZ _ (by decide))⟩, hK, hD, hS⟩, hR, ?_, fun b cs t ht hb => Stack.blk_fr hb hF (hZ _ (fun e => ht e.symm)), hF.size⟩
  refine zr_trans (h.fr.trans (Fr.new (Z := fun _ => False) hB) (fun _ _ e => e.elim)) (hF.mono (fun k _ e => ?_))
  obtain ⟨cs, hc⟩ := hT k e
  exact ⟨Kd.R_base hnod k e.symm, cs, _, hc, .inr (.inr (.inr rfl))⟩
/-- The ring knows its nodes anew. -/
theorem Gr.fin (h : Gr base Rb Lb s w0 W3 W4 (ns ++ [q]) V' row vn v4) (h4 : Blk W3 (s + 1) (F4k (.slice none 0 0)) 34) (h5 : Blk W3 (s + 2) (F4k (.slice none 0 0)) 34) (hs : w0.heap.size = s) (hlt : s + 2 < W3.heap.size) (hge : base ≤ Rb ∧ base ≤ Lb ∧ ∀ k ∈ ns, base ≤ k) (hq : base ≤ q) :
    Nd base Rb Lb s w0 (W4.setCell ⟨Rb, 1, none⟩ v4) (ns ++ [q]) V' row v4 (.slice none 0 0) [] := by
  have hF : Fr (· = Rb) W4 (W4.setCell ⟨Rb, 1, none⟩ v4) := Fr.one
  have hZ : ∀ e, 70 ≠ e → ∀ g, g = Rb → ∃ cs t, W4.heap[g]? = some (.cells cs t (0, 0)) ∧ t ≠ e := fun e hne g hg => by
    subst hg
    exact ⟨_, _, h.blk, hne⟩
  obtain ⟨P, X, hM, hK, hD, hS⟩ := h.lst
  refine ⟨⟨h.blk.set 1 _, ⟨P, X, ⟨Stack.blk_fr hM.lb hF (hZ _ (by decide)), fun k hk => Stack.blk_fr (hM.nd k hk) hF (hZ _ (by decide))⟩, hK, hD, hS⟩, Stack.row_fr (d := ptrK) rfl h.nod hF (hZ _ (by decide)), hge.1, hge.2.1, fun k hk => ?_⟩, zr_trans h.fr (hF.mono (fun k _ e => ?_)), Stack.blk_fr (h.off _ _ _ (by decide) h4) hF (hZ _ (by decide)), Stack.blk_fr (h.off _ _ _ (by decide) h5) hF (hZ _ (by decide)), Kd.R_nil .., hs, Nat.lt_of_lt_of_le hlt (Nat.le_trans h.size hF.size)⟩
  · rcases List.mem_append.1 hk with e | e
    · exact hge.2.2 k e
    · rw [List.mem_singleton.1 e]; exact hq
  · subst e
    exact ⟨hge.1, _, _, h.blk, .inl rfl⟩
end
set_option maxHeartbeats 16000000 in
set_option maxRecDepth 100000 in
theorem doNone_any (base Rb Lb : Nat) (w : World) (ns : List Nat) (V : Nat → Int) (row : List Nat) (vn : Value) (o d key val : Int) (hR : Ring base Rb Lb w ns V row vn) (hl : row.length ≤ 1099511627776) (hv : val < 0 ∨ (ns.length : Int) ≤ val) (h0 : ¬ d = 0) (h1 : ¬ d = 1) (h5 : ¬ d = 5) (h6 : ¬ d = 6) (h9 : ¬ d = 9) :
    Calls Try.prog 41 #[.pointer (some ⟨Rb, 0, none⟩), .agg #[.int .i64 o, .int .i64 d, .int .i64 key, .int .i64 val]] w fun e w' => ∃ kv, e = .returned (.agg #[.int .i64 0, .bool false, kv, .slice none 0 0]) ∧
      Ring base Rb Lb w' ns V row vn ∧ Ro w' w.heap.size kv [] ∧ Fr (Zr base w) w w' := by
  obtain ⟨A, c, rfl⟩ := Kd.R_slice hR.nod
  obtain ⟨m, hm⟩ : ∃ m, ns.length = m := ⟨_, rfl⟩
  have HM := hid hm
  rw [hm] at hv
  clear hm
  have hz0 : (d == 0) = false := beq_eq_false_iff_ne.2 h0
  have hz1 : (d == 1) = false := beq_eq_false_iff_ne.2 h1
  have hz5 : (d == 5) = false := beq_eq_false_iff_ne.2 h5
  have hz6 : (d == 6) = false := beq_eq_false_iff_ne.2 h6
  have hz9 : (d == 9) = false := beq_eq_false_iff_ne.2 h9
  have H0 := hid (Nd.start hR #[.int .i64 o, .int .i64 d, .int .i64 key, .int .i64 val])
  have HS : Hid (Blk (((w.alloc (.cells #[.int .i64 o, .int .i64 d, .int .i64 key, .int .i64 val] 27)).alloc (.cells (F4k (.slice none 0 0)) 34)).alloc (.cells (F4k (.slice none 0 0)) 34)) w.heap.size #[.int .i64 o, .int .i64 d, .int .i64 key, .int .i64 val] 27) := hid (((Blk.new w _ _).alloc _).alloc _)
  have HL := hid hl
  clear hR hl
  go_enter Try.func41, Try.ntmps41
  go_upto_region 2 with fail
  change Code.wp _ _ _ _ (((w.alloc (.cells #[.int .i64 o, .int .i64 d, .int .i64 key, .int .i64 val] 27)).alloc (.cells (F4k (.slice none 0 0)) 34)).alloc (.cells (F4k (.slice none 0 0)) 34))
  generalize ((w.alloc (.cells #[.int .i64 o, .int .i64 d, .int .i64 key, .int .i64 val] 27)).alloc (.cells (F4k (.slice none 0 0)) 34)).alloc (.cells (F4k (.slice none 0 0)) 34) = W1 at H0 HS ⊢
  have k1 : W1.cell? ⟨w.heap.size, 1, none⟩ = some (.int .i64 d) := HS.out.cell 1
  have l0 : W1.cell? ⟨Rb, 0, none⟩ = some (.pointer (some ⟨Lb, 0, none⟩)) := H0.out.ring.blk.cell 0
  have r1 : W1.cell? ⟨Rb, 1, none⟩ = some (.slice A m c) := by have := H0.out.ring.blk.cell 1; rw [HM.out] at this; exact this
  have k3 : W1.cell? ⟨w.heap.size, 3, none⟩ = some (.int .i64 val) := HS.out.cell 3
  by_cases hv0 : val < 0
  · have hd : decide ((0 : Int) ≤ val) = false := decide_eq_false (by omega)
    have hd0 : ¬ (0 : Int) ≤ val := by omega
    go_upto_region 3 with fail
    go_quiet (fail)
    have H1 := hid (H0.out.drewN nq)
    clear H0 HS r1 k3 k1 l0
    generalize W1.drewN nq = W2 at H1 ⊢
    have p0 : W2.cell? ⟨w.heap.size + 2, 0, none⟩ = some (.int .i64 0) := H1.out.x5.cell 0
    have p1 : W2.cell? ⟨w.heap.size + 2, 1, none⟩ = some (.bool false) := H1.out.x5.cell 1
    have p2 : W2.cell? ⟨w.heap.size + 2, 2, none⟩ = some (.slice none 0 0) := H1.out.x5.cell 2
    have p3 : W2.cell? ⟨w.heap.size + 2, 3, none⟩ = some (.slice none 0 0) := H1.out.x5.cell 3
    have q0 : W2.cell? ⟨w.heap.size + 1, 0, none⟩ = some (.int .i64 0) := H1.out.x4.cell 0
    have z0 : W2.frozen? ⟨w.heap.size + 1, 0, none⟩ = false := H1.out.x4.free 0
    have q1 : W2.cell? ⟨w.heap.size + 1, 1, none⟩ = some (.bool false) := H1.out.x4.cell 1
    have z1 : W2.frozen? ⟨w.heap.size + 1, 1, none⟩ = false := H1.out.x4.free 1
    have q2 : W2.cell? ⟨w.heap.size + 1, 2, none⟩ = some (.slice none 0 0) := H1.out.x4.cell 2
    have z2 : W2.frozen? ⟨w.heap.size + 1, 2, none⟩ = false := H1.out.x4.free 2
    have q3 : W2.cell? ⟨w.heap.size + 1, 3, none⟩ = some (.slice none 0 0) := H1.out.x4.cell 3
    have z3 : W2.frozen? ⟨w.heap.size + 1, 3, none⟩ = false := H1.out.x4.free 3
    go_wp2_with fail
    refine bodyPost_ret (v := .agg #[.int .i64 0, .bool false, .slice none 0 0, .slice none 0 0]) (by simp [results, Try.results41, go_sem, q0, q1, q2, q3]) rfl ?_
    have hF4 : Fr (· = w.heap.size + 1) W2 ((((W2.setCell ⟨w.heap.size + 1, 0, none⟩ (.int .i64 0)).setCell ⟨w.heap.size + 1, 1, none⟩ (.bool false)).setCell ⟨w.heap.size + 1, 2, none⟩ (.slice none 0 0)).setCell ⟨w.heap.size + 1, 3, none⟩ (.slice none 0 0)) := (((Fr.one).then Fr.one).then Fr.one).then Fr.one
    obtain ⟨a1, a2, a3⟩ := H1.out.outF H1.out.x4 (Nat.le_succ _) hF4
    exact ⟨_, rfl, a1, a3 _ _ H1.out.keys, a2⟩
  · have hd0 : (0 : Int) ≤ val := by omega
    have hd1 : ¬ val < (m : Int) := by omega
    have hd : decide (val < (m : Int)) = false := decide_eq_false hd1
    go_upto_region 3 with fail
    go_quiet (fail)
    have H1 := hid (H0.out.drewN nq)
    clear H0 HS r1 k3 k1 l0
    generalize W1.drewN nq = W2 at H1 ⊢
    have p0 : W2.cell? ⟨w.heap.size + 2, 0, none⟩ = some (.int .i64 0) := H1.out.x5.cell 0
    have p1 : W2.cell? ⟨w.heap.size + 2, 1, none⟩ = some (.bool false) := H1.out.x5.cell 1
    have p2 : W2.cell? ⟨w.heap.size + 2, 2, none⟩ = some (.slice none 0 0) := H1.out.x5.cell 2
    have p3 : W2.cell? ⟨w.heap.size + 2, 3, none⟩ = some (.slice none 0 0) := H1.out.x5.cell 3
    have q0 : W2.cell? ⟨w.heap.size + 1, 0, none⟩ = some (.int .i64 0) := H1.out.x4.cell 0
    have z0 : W2.frozen? ⟨w.heap.size + 1, 0, none⟩ = false := H1.out.x4.free 0
    have q1 : W2.cell? ⟨w.heap.size + 1, 1, none⟩ = some (.bool false) := H1.out.x4.cell 1
    have z1 : W2.frozen? ⟨w.heap.size + 1, 1, none⟩ = false := H1.out.x4.free 1
    have q2 : W2.cell? ⟨w.heap.size + 1, 2, none⟩ = some (.slice none 0 0) := H1.out.x4.cell 2
    have z2 : W2.frozen? ⟨w.heap.size + 1, 2, none⟩ = false := H1.out.x4.free 2
    have q3 : W2.cell? ⟨w.heap.size + 1, 3, none⟩ = some (.slice none 0 0) := H1.out.x4.cell 3
    have z3 : W2.frozen? ⟨w.heap.size + 1, 3, none⟩ = false := H1.out.x4.free 3
    go_wp2_with fail
    refine bodyPost_ret (v := .agg #[.int .i64 0, .bool false, .slice none 0 0, .slice none 0 0]) (by simp [results, Try.results41, go_sem, q0, q1, q2, q3]) rfl ?_
    have hF4 : Fr (· = w.heap.size + 1) W2 ((((W2.setCell ⟨w.heap.size + 1, 0, none⟩ (.int .i64 0)).setCell ⟨w.heap.size + 1, 1, none⟩ (.bool false)).setCell ⟨w.heap.size + 1, 2, none⟩ (.slice none 0 0)).setCell ⟨w.heap.size + 1, 3, none⟩ (.slice none 0 0)) := (((Fr.one).then Fr.one).then Fr.one).then Fr.one
    obtain ⟨a1, a2, a3⟩ := H1.out.outF H1.out.x4 (Nat.le_succ _) hF4
    exact ⟨_, rfl, a1, a3 _ _ H1.out.keys, a2⟩
set_option maxHeartbeats 16000000 in
set_option maxRecDepth 100000 in
theorem do9_any (base Rb Lb : Nat) (w : World) (ns : List Nat) (V : Nat → Int) (row : List Nat) (vn : Value) (o key val : Int) (hR : Ring base Rb Lb w ns V row vn) (hb : base ≤ w.heap.size) (hl : ns.length ≤ 1099511627776) :
    Calls Try.prog 41 #[.pointer (some ⟨Rb, 0, none⟩), .agg #[.int .i64 o, .int .i64 9, .int .i64 key, .int .i64 val]] w fun e w' => ∃ kv vn' q, e = .returned (.agg #[.int .i64 0, .bool false, kv, .slice none 0 0]) ∧
      Ring base Rb Lb w' (ns ++ [q]) (fun k => if k = q then key else V k) row vn' ∧ Ro w' w.heap.size kv [] ∧ Fr (Zr base w) w w' ∧ w.heap.size ≤ q ∧ q ∉ ns := by
  obtain ⟨A, c, rfl⟩ := Kd.R_slice hR.nod
  obtain ⟨m, hm⟩ : ∃ m, ns.length = m := ⟨_, rfl⟩
  have HM := hid hm
  have HBS := hid hb
  clear hm hb
  have H0 := hid (Nd.start hR #[.int .i64 o, .int .i64 9, .int .i64 key, .int .i64 val])
  have HS : Hid (Blk (((w.alloc (.cells #[.int .i64 o, .int .i64 9, .int .i64 key, .int .i64 val] 27)).alloc (.cells (F4k (.slice none 0 0)) 34)).alloc (.cells (F4k (.slice none 0 0)) 34)) w.heap.size #[.int .i64 o, .int .i64 9, .int .i64 key, .int .i64 val] 27) := hid (((Blk.new w _ _).alloc _).alloc _)
  have HL := hid hl
  clear hR hl
  go_enter Try.func41, Try.ntmps41
  go_upto_region 2 with fail
  change Code.wp _ _ _ _ (((w.alloc (.cells #[.int .i64 o, .int .i64 9, .int .i64 key, .int .i64 val] 27)).alloc (.cells (F4k (.slice none 0 0)) 34)).alloc (.cells (F4k (.slice none 0 0)) 34))
  generalize ((w.alloc (.cells #[.int .i64 o, .int .i64 9, .int .i64 key, .int .i64 val] 27)).alloc (.cells (F4k (.slice none 0 0)) 34)).alloc (.cells (F4k (.slice none 0 0)) 34) = W1 at H0 HS ⊢
  have k1 : W1.cell? ⟨w.heap.size, 1, none⟩ = some (.int .i64 9) := HS.out.cell 1
  have l0 : W1.cell? ⟨Rb, 0, none⟩ = some (.pointer (some ⟨Lb, 0, none⟩)) := H0.out.ring.blk.cell 0
  have r1 : W1.cell? ⟨Rb, 1, none⟩ = some (.slice A m c) := by have := H0.out.ring.blk.cell 1; rw [HM.out] at this; exact this
  have k2 : W1.cell? ⟨w.heap.size, 2, none⟩ = some (.int .i64 key) := HS.out.cell 2
  have H1 := hid (H0.out.below (W1 := W1.drew) ⟨rfl, rfl, rfl, Nat.le_refl _, fun _ _ => rfl⟩)
  have HS1 : Hid (Blk W1.drew w.heap.size #[.int .i64 o, .int .i64 9, .int .i64 key, .int .i64 val] 27) := hid HS.out
  go_upto_region 16 with fail
  refine start_ (n := 14) (S := fun w' => w'.cell? ⟨Rb, 1, none⟩ = some (.slice A m c) ∧ w'.cell? ⟨w.heap.size, 2, none⟩ = some (.int .i64 key)) (ds := [13]) #[false, false, false, false, false, false, false, false, false, false, false, false, false, false] (by kernel_rfl) rfl rfl ⟨r1, k2⟩ (fun hHeld => ?_)
  refine with_tabW rd16.tab rd16.bits (fun HT_ HW_ => ?_)
  clear r1 k2 l0 k1 H0 HS
  generalize W1.drew = Wd at H1 HS1 hHeld ⊢
  have HH : Hid (∀ W', Below Wd.heap.size Wd W' → W'.cell? ⟨Rb, 1, none⟩ = some (.slice A m c) ∧ W'.cell? ⟨w.heap.size, 2, none⟩ = some (.int .i64 key)) := hid (fun W' hB => ⟨by have := (H1.out.ring.blk.below hB H1.out.ring.blk.lt).cell 1; rw [HM.out] at this; exact this, (HS1.out.below hB HS1.out.lt).cell 2⟩)
  refine pure_ (i := 0) (N := some 98) (v := ?_) (a' := ?_) #[true, false, false, false, false, false, false, false, false, false, false, false, false, false] rfl rfl (any_of HT_.out (by kernel_rfl)) (fun _ _ _ h => h) (Or.inl ⟨by rfl, ?_⟩) ?_ ?_
  rotate_left
  · intro w'
    go_simp
    with_reducible rfl
  rotate_left
  · simp only [Act.put, List.setIfInBounds_toArray, List.set_cons_zero, List.set_cons_succ]
    rfl
  refine pure_ (i := 1) (N := some 99) (v := ?_) (a' := ?_) #[true, true, false, false, false, false, false, false, false, false, false, false, false, false] rfl rfl (any_of HT_.out (by kernel_rfl)) (fun _ _ _ h => h) (Or.inl ⟨by rfl, ?_⟩) ?_ ?_
  rotate_left
  · intro w'
    go_simp
    with_reducible rfl
  rotate_left
  · simp only [Act.put, List.setIfInBounds_toArray, List.set_cons_zero, List.set_cons_succ]
    rfl
  refine pure_ (i := 2) (N := some 100) (v := ?_) (a' := ?_) #[true, true, true, false, false, false, false, false, false, false, false, false, false, false] rfl rfl (any_of HT_.out (by kernel_rfl)) (fun _ _ _ h => h) (Or.inl ⟨by rfl, ?_⟩) ?_ ?_
  rotate_left
  · intro w'
    go_simp
    with_reducible rfl
  rotate_left
  · simp only [Act.put, List.setIfInBounds_toArray, List.set_cons_zero, List.set_cons_succ]
    rfl
  refine pure_ (i := 3) (N := some 101) (v := ?_) (a' := ?_) #[true, true, true, true, false, false, false, false, false, false, false, false, false, false] rfl rfl (any_of HT_.out (by kernel_rfl)) (fun _ _ _ h => h) (Or.inl ⟨by rfl, ?_⟩) ?_ ?_
  rotate_left
  · intro w'
    go_simp
    with_reducible rfl
  rotate_left
  · simp only [Act.put, List.setIfInBounds_toArray, List.set_cons_zero, List.set_cons_succ]
    rfl
  refine take_ (i := 4) (N := some 102) (v := ?_) (a' := ?_) #[true, true, true, true, true, false, false, false, false, false, false, false, false, false] rfl rfl (take_ofW HT_.out HW_.out (by kernel_rfl)) (fun _ _ _ h => h) (Or.inl ⟨by rfl, ?_⟩) hHeld ?_ ?_
  rotate_left
  · intro w' s0
    obtain ⟨s1, s2⟩ := s0
    go_simp
    with_reducible rfl
  rotate_left
  · simp only [Act.put, List.setIfInBounds_toArray, List.set_cons_zero, List.set_cons_succ]
    rfl
  refine pure_ (i := 5) (N := some 103) (v := ?_) (a' := ?_) #[true, true, true, true, true, true, false, false, false, false, false, false, false, false] rfl rfl (any_of HT_.out (by kernel_rfl)) (fun _ _ _ h => h) (Or.inl ⟨by rfl, ?_⟩) ?_ ?_
  rotate_left
  · intro w'
    go_simp
    with_reducible rfl
  rotate_left
  · simp only [Act.put, List.setIfInBounds_toArray, List.set_cons_zero, List.set_cons_succ]
    rfl
  refine take_ (i := 6) (N := some 104) (v := ?_) (a' := ?_) #[true, true, true, true, true, true, true, false, false, false, false, false, false, false] rfl rfl (take_ofW HT_.out HW_.out (by kernel_rfl)) (fun _ _ _ h => h) (Or.inl ⟨by rfl, ?_⟩) hHeld ?_ ?_
  rotate_left
  · intro w' s0
    obtain ⟨s1, s2⟩ := s0
    go_simp
    with_reducible rfl
  rotate_left
  · simp only [Act.put, List.setIfInBounds_toArray, List.set_cons_zero, List.set_cons_succ]
    rfl
  refine pure_ (i := 7) (N := some 105) (v := ?_) (a' := ?_) #[true, true, true, true, true, true, true, true, false, false, false, false, false, false] rfl rfl (any_of HT_.out (by kernel_rfl)) (fun _ _ _ h => h) (Or.inl ⟨by rfl, ?_⟩) ?_ ?_
  rotate_left
  · intro w'
    go_simp
    with_reducible rfl
  rotate_left
  · simp only [Act.put, List.setIfInBounds_toArray, List.set_cons_zero, List.set_cons_succ]
    rfl
  refine one_ (i := 8) (N := some 106) #[true, true, true, true, true, true, true, true, true, false, false, false, false, false] rfl rfl (one_of HT_.out (by kernel_rfl)) (by decide) (fun K_ hK => ?_)
  refine value_ (w1 := ?_) (v := ?_) (by rfl) rfl ?_ ?_
  rotate_left 2
  · go_simp
    constructor
    · rfl
    · rfl
  refine hK.out _ _ (HH.out _ ((Below.refl _ _).alloc (Nat.le_refl _) _)) (fun hHeld => ?_)
  clear hK K_
  have H2 : Hid (Below Wd.heap.size Wd (Wd.alloc (.cells #[.int .i64 key, .pointer none, .pointer none] 115)) ∧ Lst (Wd.alloc (.cells #[.int .i64 key, .pointer none, .pointer none] 115)) Lb (ns ++ [Wd.heap.size]) (fun k => if k = Wd.heap.size then key else V k) row ∧ (Wd.alloc (.cells #[.int .i64 key, .pointer none, .pointer none] 115)).heap.size = Wd.heap.size + 1) := hid ⟨(Below.refl _ _).alloc (Nat.le_refl _) _, H1.out.ring.lst.add key, Hk.alloc_size _ _⟩
  generalize Wd.alloc (.cells #[.int .i64 key, .pointer none, .pointer none] 115) = W2 at H2 hHeld ⊢
  refine norm_ (a' := ?_) ?_ ?_
  rotate_left
  · show Act.put _ (some 106) _ = _
    simp only [Act.put, List.setIfInBounds_toArray, List.set_cons_zero, List.set_cons_succ]
    rfl
  refine one_ (i := 9) (N := some 107) #[true, true, true, true, true, true, true, true, true, true, false, false, false, false] rfl rfl (one_of HT_.out (by kernel_rfl)) (by decide) (fun K_ hK => ?_)
  refine value_ (w1 := ?_) (v := ?_) (by rfl) rfl ?_ ?_
  rotate_left 2
  · go_simp
    constructor
    · rfl
    · rfl
  refine hK.out _ _ (HH.out _ (H2.out.1.alloc H2.out.1.size _)) (fun hHeld => ?_)
  clear hK K_
  have H3 : Hid (Below Wd.heap.size Wd (W2.alloc (.cells #[.pointer (some ⟨Wd.heap.size, 0, none⟩)] 110)) ∧ Lst (W2.alloc (.cells #[.pointer (some ⟨Wd.heap.size, 0, none⟩)] 110)) Lb (ns ++ [Wd.heap.size]) (fun k => if k = Wd.heap.size then key else V k) row ∧ Blk (W2.alloc (.cells #[.pointer (some ⟨Wd.heap.size, 0, none⟩)] 110)) W2.heap.size #[.pointer (some ⟨Wd.heap.size, 0, none⟩)] 110) := hid ⟨H2.out.1.alloc H2.out.1.size _, H2.out.2.1.below ((Below.refl _ _).alloc (Nat.le_refl _) _), Blk.new _ _ _⟩
  generalize W2.alloc (.cells #[.pointer (some ⟨Wd.heap.size, 0, none⟩)] 110) = W3 at H3 hHeld ⊢
  generalize W2.heap.size = q2 at H3 ⊢
  refine norm_ (a' := ?_) ?_ ?_
  rotate_left
  · show Act.put _ (some 107) _ = _
    simp only [Act.put, List.setIfInBounds_toArray, List.set_cons_zero, List.set_cons_succ]
    rfl
  refine one_ (i := 10) (N := some 108) #[true, true, true, true, true, true, true, true, true, true, true, false, false, false] rfl rfl (one_of HT_.out (by kernel_rfl)) (by decide) (fun K_ hK => ?_)
  refine Row.append_step ptrK rfl (.tmp 102) (.tmp 107) 68 110 (.pointer none) 8 rfl undPn infoPn rfl (by decide) base (.slice A m c) ns Wd.heap.size [.pointer (some ⟨Wd.heap.size, 0, none⟩)] (fun _ => True) (fun _ => False) W3 rfl (by have h_ := Kd.R_below H1.out.ring.nod H3.out.1; rw [HM.out] at h_; exact h_) ⟨q2, 0, none⟩ 1 rfl rfl ?acs (fun _ h => h.elim) (fun _ _ => trivial) ?aln (by omega) (Nat.le_trans HBS.out (Nat.le_trans (Nat.le_of_lt (Nat.lt_of_le_of_lt (Nat.le_add_right _ 2) H1.out.lt)) H3.out.1.size)) ?_
  case acs =>
    intro j u hj
    match j, hj with
    | 0, hj =>
      rw [Addr.add_zero', H3.out.2.2.cell 0]
      simpa using hj
  case aln => have h_ := HL.out; have h2_ := HM.out; omega
  intro v1 W4 hR hg hat
  obtain ⟨A4, c4, rfl⟩ := Kd.R_slice hR
  have H4 := hid (grew H1.out H3.out.1 H3.out.2.1 hR (by rw [HM.out]; exact hg))
  clear hR hg hat
  refine hK.out _ _ ⟨by have := H4.out.blk.cell 1; rw [HM.out] at this; exact this, by have := (HS1.out.below H3.out.1 HS1.out.lt); exact (H4.out.off w.heap.size _ _ (by decide) this).cell 2⟩ (fun hHeld => ?_)
  clear hK K_
  refine norm_ (a' := ?_) ?_ ?_
  rotate_left
  · show Act.put _ (some 108) _ = _
    simp only [Act.put, List.setIfInBounds_toArray, List.set_cons_zero, List.set_cons_succ]
    rfl
  refine pure_ (i := 11) (N := some 109) (v := ?_) (a' := ?_) #[true, true, true, true, true, true, true, true, true, true, true, true, false, false] rfl rfl (any_of HT_.out (by kernel_rfl)) (fun _ _ _ h => h) (Or.inl ⟨by rfl, ?_⟩) ?_ ?_
  rotate_left
  · intro w'
    go_simp
    with_reducible rfl
  rotate_left
  · simp only [Act.put, List.setIfInBounds_toArray, List.set_cons_zero, List.set_cons_succ]
    rfl
  refine pure_ (i := 12) (N := some 110) (v := ?_) (a' := ?_) #[true, true, true, true, true, true, true, true, true, true, true, true, true, false] rfl rfl (any_of HT_.out (by kernel_rfl)) (fun _ _ _ h => h) (Or.inl ⟨by rfl, ?_⟩) ?_ ?_
  rotate_left
  · intro w'
    go_simp
    with_reducible rfl
  rotate_left
  · simp only [Act.put, List.setIfInBounds_toArray, List.set_cons_zero, List.set_cons_succ]
    rfl
  have d4 : W4.cell? ⟨Rb, 1, none⟩ = some (.slice A m c) := by have := H4.out.blk.cell 1; rw [HM.out] at this; exact this
  have f4 : W4.frozen? ⟨Rb, 1, none⟩ = false := H4.out.blk.free 1
  refine last_ (i := 13) (N := none) #[true, true, true, true, true, true, true, true, true, true, true, true, true, true] rfl rfl (one_of HT_.out (by kernel_rfl)) (by decide) (fun K_ hK => ?_)
  refine skip_ (w1 := ?_) (by rfl) rfl ?_ ?_
  rotate_left
  · go_simp
    rfl
  refine hK.out _ _ ?_
  clear hK K_
  refine done_ (done_of HT_.out (by kernel_rfl)) ?_
  clear HT_ HW_
  clear d4 f4
  have HQN : Hid (w.heap.size ≤ Wd.heap.size ∧ Wd.heap.size ∉ ns) := hid ⟨by have := H1.out.lt; omega, fun hk => by have := H1.out.ring.lst.ltN _ hk; omega⟩
  have H5 := hid (H4.out.fin (H1.out.x4.below H3.out.1 H1.out.x4.lt) (H1.out.x5.below H3.out.1 H1.out.x5.lt) rfl (Nat.lt_of_lt_of_le H1.out.lt H3.out.1.size) H1.out.ring.ge (Nat.le_trans HBS.out HQN.out.1))
  have hl4 : (ns ++ [Wd.heap.size]).length = ns.length + 1 := by simp
  rw [hl4] at H5
  clear hl4 H4 H3 H1 HS1 HH hHeld
  go_upto_region 17 with fail
  generalize W4.setCell ⟨Rb, 1, none⟩ (.slice A4 (ns.length + 1) c4) = W5 at H5 ⊢
  have p0 : W5.cell? ⟨w.heap.size + 2, 0, none⟩ = some (.int .i64 0) := H5.out.x5.cell 0
  have p1 : W5.cell? ⟨w.heap.size + 2, 1, none⟩ = some (.bool false) := H5.out.x5.cell 1
  have p2 : W5.cell? ⟨w.heap.size + 2, 2, none⟩ = some (.slice none 0 0) := H5.out.x5.cell 2
  have p3 : W5.cell? ⟨w.heap.size + 2, 3, none⟩ = some (.slice none 0 0) := H5.out.x5.cell 3
  have q0 : W5.cell? ⟨w.heap.size + 1, 0, none⟩ = some (.int .i64 0) := H5.out.x4.cell 0
  have z0 : W5.frozen? ⟨w.heap.size + 1, 0, none⟩ = false := H5.out.x4.free 0
  have q1 : W5.cell? ⟨w.heap.size + 1, 1, none⟩ = some (.bool false) := H5.out.x4.cell 1
  have z1 : W5.frozen? ⟨w.heap.size + 1, 1, none⟩ = false := H5.out.x4.free 1
  have q2 : W5.cell? ⟨w.heap.size + 1, 2, none⟩ = some (.slice none 0 0) := H5.out.x4.cell 2
  have z2 : W5.frozen? ⟨w.heap.size + 1, 2, none⟩ = false := H5.out.x4.free 2
  have q3 : W5.cell? ⟨w.heap.size + 1, 3, none⟩ = some (.slice none 0 0) := H5.out.x4.cell 3
  have z3 : W5.frozen? ⟨w.heap.size + 1, 3, none⟩ = false := H5.out.x4.free 3
  go_wp2_with fail
  refine bodyPost_ret (v := .agg #[.int .i64 0, .bool false, .slice none 0 0, .slice none 0 0]) (by simp [results, Try.results41, go_sem, q0, q1, q2, q3]) rfl ?_
  have hF4 : Fr (· = w.heap.size + 1) W5 ((((W5.setCell ⟨w.heap.size + 1, 0, none⟩ (.int .i64 0)).setCell ⟨w.heap.size + 1, 1, none⟩ (.bool false)).setCell ⟨w.heap.size + 1, 2, none⟩ (.slice none 0 0)).setCell ⟨w.heap.size + 1, 3, none⟩ (.slice none 0 0)) := (((Fr.one).then Fr.one).then Fr.one).then Fr.one
  obtain ⟨a1, a2, a3⟩ := H5.out.outF H5.out.x4 (Nat.le_succ _) hF4
  exact ⟨_, _, Wd.heap.size, rfl, a1, a3 _ _ H5.out.keys, a2, HQN.out.1, HQN.out.2⟩
end Go.Proofs.Ytmhnhfmkcipcpaa.Lists

namespace Go.Proofs.Ytmhnhfmkcipcpaa.Lists
open Go Go.RowKit Go.Deep Go.Proofs.Ytmhnhfmkcipcpaa.Hk Go.Proofs.Ytmhnhfmkcipcpaa.ListPure Go.Proofs.Ytmhnhfmkcipcpaa.Heap Go.Proofs.YtmhnhfmkcipcpaaW.PrintWords Go.Proofs.YtmhnhfmkcipcpaaW.PrintLast Go.Proofs.YtmhnhfmkcipcpaaW.PrintMore
/-- Behind a value put to the list, ahead of the node put to the ring's nodes. -/
structure Pd (base Rb Lb s : Nat) (w0 W : World) (ns ns' : List Nat) (V' : Nat → Int) (row : List Nat) (vn : Value) : Prop where
  blk : Blk W Rb #[.pointer (some ⟨Lb, 0, none⟩), vn] 70
  lst : Lst W Lb ns' V' row
  nod : ptrK.R 110 W base (fun _ => True) vn ns
  fr : Fr (Zr base w0) w0 W
  x4 : Blk W (s + 1) (F4k (.slice none 0 0)) 34
  x5 : Blk W (s + 2) (F4k (.slice none 0 0)) 34
  lt : s + 2 < W.heap.size
section
variable {base Rb Lb s q : Nat} {w0 W W1 W3 W4 : World} {ns ns' row row' : List Nat} {V V' : Nat → Int} {vn v4 : Value} {ks : List Int}
theorem pd_of (h : Nd base Rb Lb s w0 W ns V row vn (.slice none 0 0) ks) (hL : Lst W1 Lb ns' V' row') (hF : Fr (Zl Lb ns) W W1) : Pd base Rb Lb s w0 W1 ns ns' V' row' vn := by
  obtain ⟨P, X, hM, _⟩ := h.ring.lst
  have hZ : ∀ e, e ≠ 112 → e ≠ 115 → ∀ g, Zl Lb ns g → ∃ cs t, W.heap[g]? = some (.cells cs t (0, 0)) ∧ t ≠ e := by
    rintro e h1 h2 g (rfl | hg)
    · exact ⟨_, _, hM.lb, fun q => h1 q.symm⟩
    · exact ⟨_, _, hM.nd g hg, fun q => h2 q.symm⟩
  exact ⟨Stack.blk_fr h.ring.blk hF (hZ _ (by decide) (by decide)), hL, Stack.row_fr (d := ptrK) rfl h.ring.nod hF (hZ _ (by decide) (by decide)), zr_trans h.fr (hF.mono (fun k _ hz => h.ring.zl k hz)), Stack.blk_fr h.x4 hF (hZ _ (by decide) (by decide)), Stack.blk_fr h.x5 hF (hZ _ (by decide) (by decide)), Nat.lt_of_lt_of_le h.lt hF.size⟩
theorem Pd.below (h : Pd base Rb Lb s w0 W ns ns' V' row vn) (hB : Below W.heap.size W W1) : Pd base Rb Lb s w0 W1 ns ns' V' row vn :=
  ⟨h.blk.below hB h.blk.lt, h.lst.below hB, Kd.R_below h.nod hB, h.fr.trans (Fr.new (Z := fun _ => False) hB) (fun _ _ e => e.elim), h.x4.below hB h.x4.lt, h.x5.below hB h.x5.lt, Nat.lt_of_lt_of_le h.lt hB.size⟩
theorem Pd.grew (h : Pd base Rb Lb s w0 W3 ns ns' V' row vn) (hR : ptrK.R 110 W4 base (fun _ => True) v4 ns') (hg : W3.grownBy W4 vn.ownBlock) : Gr base Rb Lb s w0 W3 W4 ns' V' row vn v4 := by
  have hF : Fr (fun k => some k = vn.ownBlock) W3 W4 := Fr.of_grown hg
  have hT : ∀ g, some g = vn.ownBlock → ∃ cs, W3.heap[g]? = some (.cells cs 110 (0, 0)) := fun g e => by
    obtain ⟨inner, ho⟩ := Kd.R_own h.nod
    exact own_typed ho g e.symm
  have hZ : ∀ e, 110 ≠ e → ∀ g, some g = vn.ownBlock → ∃ cs t, W3.heap[g]? = some (.cells cs t (0, 0)) ∧ t ≠ e := fun e hne g q => by
    obtain ⟨cs, hc⟩ := hT g q
    exact ⟨cs, _, hc, hne⟩
  obtain ⟨P, X, hM, hK, hD, hS⟩ := h.lst
  refine ⟨Stack.blk_fr h.blk hF (hZ _ (by decide)), ⟨P, X, ⟨Stack.blk_fr hM.lb hF (hZ _ (by decide)), fun k hk => Stack.blk_fr (hM.nd k hk) hF (hZ _ (by decide))⟩, hK, hD, hS⟩, hR, zr_trans h.fr (hF.mono (fun k _ e => ?_)), fun b cs t ht hb => Stack.blk_fr hb hF (hZ _ (fun e => ht e.symm)), hF.size⟩
  obtain ⟨cs, hc⟩ := hT k e
  exact ⟨Kd.R_base h.nod k e.symm, cs, _, hc, .inr (.inr (.inr rfl))⟩
end
def rd7.T : Bool × List (List Nat × List Nat) := (true, [([], []), ([], []), ([1], [1]), ([2], [2]), ([3], [3]), ([], []), ([5], [5]), ([6], [6]), ([7], [7]), ([8], [8]), ([9], [9]), ([10], [10]), ([11], [11]), ([4, 12], [4, 12]), ([0, 0, 1, 2, 3, 4, 5, 6, 7, 8, 9, 10, 11, 12, 13], [0]), ([14, 0, 1, 2, 3, 4, 5, 6, 7, 8, 9, 10, 11, 12, 13], [14]), ([15, 13, 13, 0, 1, 2, 3, 4, 5, 6, 7, 8, 9, 10, 11, 12, 13], [13, 15])])
def rd7.B : List Nat := [0, 0, 2, 6, 14, 0, 32, 96, 224, 480, 992, 2016, 4064, 8190, 16383, 32767, 65535]
theorem rd7.tab : rtab .any (opsOf Try.f41 7) = rd7.T := by kernel_rfl
theorem rd7.bits : waitsOk rd7.T.2 rd7.B = true := by kernel_rfl
set_option maxHeartbeats 16000000 in
set_option maxRecDepth 100000 in
theorem do0_any (base Rb Lb : Nat) (w : World) (ns : List Nat) (V : Nat → Int) (row : List Nat) (vn : Value) (o key val : Int) (hR : Ring base Rb Lb w ns V row vn) (hb : base ≤ w.heap.size) (hl : ns.length ≤ 1099511627776) :
    Calls Try.prog 41 #[.pointer (some ⟨Rb, 0, none⟩), .agg #[.int .i64 o, .int .i64 0, .int .i64 key, .int .i64 val]] w fun e w' => ∃ kv vn' q, e = .returned (.agg #[.int .i64 0, .bool false, kv, .slice none 0 0]) ∧
      Ring base Rb Lb w' (ns ++ [q]) (fun k => if k = q then key else V k) (row ++ [q]) vn' ∧ Ro w' w.heap.size kv [] ∧ Fr (Zr base w) w w' ∧ w.heap.size ≤ q ∧ q ∉ ns := by
  obtain ⟨A, c, rfl⟩ := Kd.R_slice hR.nod
  obtain ⟨m, hm⟩ : ∃ m, ns.length = m := ⟨_, rfl⟩
  have HM := hid hm
  have HBS := hid hb
  clear hm hb
  have H0 := hid (Nd.start hR #[.int .i64 o, .int .i64 0, .int .i64 key, .int .i64 val])
  have HS : Hid (Blk (((w.alloc (.cells #[.int .i64 o, .int .i64 0, .int .i64 key, .int .i64 val] 27)).alloc (.cells (F4k (.slice none 0 0)) 34)).alloc (.cells (F4k (.slice none 0 0)) 34)) w.heap.size #[.int .i64 o, .int .i64 0, .int .i64 key, .int .i64 val] 27) := hid (((Blk.new w _ _).alloc _).alloc _)
  have HL := hid hl
  clear hR hl
  go_enter Try.func41, Try.ntmps41
  go_upto_region 2 with fail
  change Code.wp _ _ _ _ (((w.alloc (.cells #[.int .i64 o, .int .i64 0, .int .i64 key, .int .i64 val] 27)).alloc (.cells (F4k (.slice none 0 0)) 34)).alloc (.cells (F4k (.slice none 0 0)) 34))
  generalize ((w.alloc (.cells #[.int .i64 o, .int .i64 0, .int .i64 key, .int .i64 val] 27)).alloc (.cells (F4k (.slice none 0 0)) 34)).alloc (.cells (F4k (.slice none 0 0)) 34) = W1 at H0 HS ⊢
  have k1 : W1.cell? ⟨w.heap.size, 1, none⟩ = some (.int .i64 0) := HS.out.cell 1
  have l0 : W1.cell? ⟨Rb, 0, none⟩ = some (.pointer (some ⟨Lb, 0, none⟩)) := H0.out.ring.blk.cell 0
  have k2 : W1.cell? ⟨w.heap.size, 2, none⟩ = some (.int .i64 key) := HS.out.cell 2
  have H1 := hid (H0.out.below (W1 := W1.drew) ⟨rfl, rfl, rfl, Nat.le_refl _, fun _ _ => rfl⟩)
  go_upto_region 6 with fail
  go_still_tail 6, (by kernel_rfl)
  change wpList _ _ _ _ _ W1.drew
  clear k1 k2 l0 H0 HS
  generalize W1.drew = Wd at H1 ⊢
  go_wp2_with fail
  refine (back_val Wd Lb ns row V key H1.out.ring.lst).mono ?_
  rintro e W2 ⟨rfl, hL, hF⟩
  obtain ⟨q, hq⟩ : ∃ q, Wd.heap.size = q := ⟨_, rfl⟩
  have HQN : Hid (w.heap.size ≤ q ∧ q ∉ ns ∧ base ≤ q) := by
    subst hq
    exact hid ⟨by have := H1.out.lt; omega, fun hk => by have := H1.out.ring.lst.ltN _ hk; omega, by have := H1.out.lt; have := HBS.out; omega⟩
  rw [hq] at hL
  have P2 := hid (pd_of H1.out hL hF)
  have HGE := hid H1.out.ring.ge
  clear hL hF hq H1
  have r1 : W2.cell? ⟨Rb, 1, none⟩ = some (.slice A m c) := by have := P2.out.blk.cell 1; rw [HM.out] at this; exact this
  have r0 : W2.cell? ⟨Rb, 0, none⟩ = some (.pointer (some ⟨Lb, 0, none⟩)) := P2.out.blk.cell 0
  have rl : W2.cell? ⟨Lb, 1, none⟩ = some (.pointer (some ⟨q, 0, none⟩)) := by
    obtain ⟨P, X, hM, _⟩ := P2.out.lst
    have h_ := hM.lb.cell 1
    rw [last_app] at h_
    exact h_
  go_upto_region 7 with fail
  have P3 := hid (P2.out.below (W1 := W2.drew) ⟨rfl, rfl, rfl, Nat.le_refl _, fun _ _ => rfl⟩)
  refine start_ (n := 17) (S := fun w' => w'.cell? ⟨Rb, 1, none⟩ = some (.slice A m c) ∧ w'.cell? ⟨Rb, 0, none⟩ = some (.pointer (some ⟨Lb, 0, none⟩)) ∧ w'.cell? ⟨Lb, 1, none⟩ = some (.pointer (some ⟨q, 0, none⟩))) (ds := [16]) #[false, false, false, false, false, false, false, false, false, false, false, false, false, false, false, false, false] (by kernel_rfl) rfl rfl ⟨r1, r0, rl⟩ (fun hHeld => ?_)
  refine with_tabW rd7.tab rd7.bits (fun HT_ HW_ => ?_)
  clear r1 r0 rl P2
  generalize W2.drew = We at P3 hHeld ⊢
  refine pure_ (i := 0) (N := some 33) (v := ?_) (a' := ?_) #[true, false, false, false, false, false, false, false, false, false, false, false, false, false, false, false, false] rfl rfl (any_of HT_.out (by kernel_rfl)) (fun _ _ _ h => h) (Or.inl ⟨by rfl, ?_⟩) ?_ ?_
  rotate_left
  · intro w'
    go_simp
    with_reducible rfl
  rotate_left
  · simp only [Act.put, List.setIfInBounds_toArray, List.set_cons_zero, List.set_cons_succ]
    rfl
  refine pure_ (i := 1) (N := some 34) (v := ?_) (a' := ?_) #[true, true, false, false, false, false, false, false, false, false, false, false, false, false, false, false, false] rfl rfl (any_of HT_.out (by kernel_rfl)) (fun _ _ _ h => h) (Or.inl ⟨by rfl, ?_⟩) ?_ ?_
  rotate_left
  · intro w'
    go_simp
    with_reducible rfl
  rotate_left
  · simp only [Act.put, List.setIfInBounds_toArray, List.set_cons_zero, List.set_cons_succ]
    rfl
  refine pure_ (i := 2) (N := some 35) (v := ?_) (a' := ?_) #[true, true, true, false, false, false, false, false, false, false, false, false, false, false, false, false, false] rfl rfl (any_of HT_.out (by kernel_rfl)) (fun _ _ _ h => h) (Or.inl ⟨by rfl, ?_⟩) ?_ ?_
  rotate_left
  · intro w'
    go_simp
    with_reducible rfl
  rotate_left
  · simp only [Act.put, List.setIfInBounds_toArray, List.set_cons_zero, List.set_cons_succ]
    rfl
  refine pure_ (i := 3) (N := some 36) (v := ?_) (a' := ?_) #[true, true, true, true, false, false, false, false, false, false, false, false, false, false, false, false, false] rfl rfl (any_of HT_.out (by kernel_rfl)) (fun _ _ _ h => h) (Or.inl ⟨by rfl, ?_⟩) ?_ ?_
  rotate_left
  · intro w'
    go_simp
    with_reducible rfl
  rotate_left
  · simp only [Act.put, List.setIfInBounds_toArray, List.set_cons_zero, List.set_cons_succ]
    rfl
  refine take_ (i := 4) (N := some 37) (v := ?_) (a' := ?_) #[true, true, true, true, true, false, false, false, false, false, false, false, false, false, false, false, false] rfl rfl (take_ofW HT_.out HW_.out (by kernel_rfl)) (fun _ _ _ h => h) (Or.inl ⟨by rfl, ?_⟩) hHeld ?_ ?_
  rotate_left
  · intro w' s0
    obtain ⟨s1, s2, s3⟩ := s0
    go_simp
    with_reducible rfl
  rotate_left
  · simp only [Act.put, List.setIfInBounds_toArray, List.set_cons_zero, List.set_cons_succ]
    rfl
  refine pure_ (i := 5) (N := some 38) (v := ?_) (a' := ?_) #[true, true, true, true, true, true, false, false, false, false, false, false, false, false, false, false, false] rfl rfl (any_of HT_.out (by kernel_rfl)) (fun _ _ _ h => h) (Or.inl ⟨by rfl, ?_⟩) ?_ ?_
  rotate_left
  · intro w'
    go_simp
    with_reducible rfl
  rotate_left
  · simp only [Act.put, List.setIfInBounds_toArray, List.set_cons_zero, List.set_cons_succ]
    rfl
  refine pure_ (i := 6) (N := some 39) (v := ?_) (a' := ?_) #[true, true, true, true, true, true, true, false, false, false, false, false, false, false, false, false, false] rfl rfl (any_of HT_.out (by kernel_rfl)) (fun _ _ _ h => h) (Or.inl ⟨by rfl, ?_⟩) ?_ ?_
  rotate_left
  · intro w'
    go_simp
    with_reducible rfl
  rotate_left
  · simp only [Act.put, List.setIfInBounds_toArray, List.set_cons_zero, List.set_cons_succ]
    rfl
  refine pure_ (i := 7) (N := some 40) (v := ?_) (a' := ?_) #[true, true, true, true, true, true, true, true, false, false, false, false, false, false, false, false, false] rfl rfl (any_of HT_.out (by kernel_rfl)) (fun _ _ _ h => h) (Or.inl ⟨by rfl, ?_⟩) ?_ ?_
  rotate_left
  · intro w'
    go_simp
    with_reducible rfl
  rotate_left
  · simp only [Act.put, List.setIfInBounds_toArray, List.set_cons_zero, List.set_cons_succ]
    rfl
  refine take_ (i := 8) (N := some 41) (v := ?_) (a' := ?_) #[true, true, true, true, true, true, true, true, true, false, false, false, false, false, false, false, false] rfl rfl (take_ofW HT_.out HW_.out (by kernel_rfl)) (fun _ _ _ h => h) (Or.inl ⟨by rfl, ?_⟩) hHeld ?_ ?_
  rotate_left
  · intro w' s0
    obtain ⟨s1, s2, s3⟩ := s0
    go_simp
    with_reducible rfl
  rotate_left
  · simp only [Act.put, List.setIfInBounds_toArray, List.set_cons_zero, List.set_cons_succ]
    rfl
  refine pure_ (i := 9) (N := some 42) (v := ?_) (a' := ?_) #[true, true, true, true, true, true, true, true, true, true, false, false, false, false, false, false, false] rfl rfl (any_of HT_.out (by kernel_rfl)) (fun _ _ _ h => h) (Or.inl ⟨by rfl, ?_⟩) ?_ ?_
  rotate_left
  · intro w'
    go_simp
    with_reducible rfl
  rotate_left
  · simp only [Act.put, List.setIfInBounds_toArray, List.set_cons_zero, List.set_cons_succ]
    rfl
  refine pure_ (i := 10) (N := some 43) (v := ?_) (a' := ?_) #[true, true, true, true, true, true, true, true, true, true, true, false, false, false, false, false, false] rfl rfl (any_of HT_.out (by kernel_rfl)) (fun _ _ _ h => h) (Or.inl ⟨by rfl, ?_⟩) ?_ ?_
  rotate_left
  · intro w'
    go_simp
    with_reducible rfl
  rotate_left
  · simp only [Act.put, List.setIfInBounds_toArray, List.set_cons_zero, List.set_cons_succ]
    rfl
  refine take_ (i := 11) (N := some 44) (v := ?_) (a' := ?_) #[true, true, true, true, true, true, true, true, true, true, true, true, false, false, false, false, false] rfl rfl (take_ofW HT_.out HW_.out (by kernel_rfl)) (fun _ _ _ h => h) (Or.inl ⟨by rfl, ?_⟩) hHeld ?_ ?_
  rotate_left
  · intro w' s0
    obtain ⟨s1, s2, s3⟩ := s0
    go_simp
    with_reducible rfl
  rotate_left
  · simp only [Act.put, List.setIfInBounds_toArray, List.set_cons_zero, List.set_cons_succ]
    rfl
  have P4 : Hid (Pd base Rb Lb w.heap.size w (We.alloc (.cells #[.pointer (some ⟨q, 0, none⟩)] 110)) ns (ns ++ [q]) (fun k => if k = q then key else V k) (row ++ [q]) (.slice A ns.length c) ∧ Blk (We.alloc (.cells #[.pointer (some ⟨q, 0, none⟩)] 110)) We.heap.size #[.pointer (some ⟨q, 0, none⟩)] 110) := hid ⟨P3.out.below ((Below.refl _ _).alloc (Nat.le_refl _) _), Blk.new _ _ _⟩
  refine one_ (i := 12) (N := some 45) #[true, true, true, true, true, true, true, true, true, true, true, true, true, false, false, false, false] rfl rfl (one_of HT_.out (by kernel_rfl)) (by decide) (fun K_ hK => ?_)
  refine value_ (w1 := ?_) (v := ?_) (by rfl) rfl ?_ ?_
  rotate_left 2
  · go_simp
    constructor
    · rfl
    · rfl
  refine hK.out _ _ ⟨by have := P4.out.1.blk.cell 1; rw [HM.out] at this; exact this, P4.out.1.blk.cell 0, by
    obtain ⟨P, X, hM, _⟩ := P4.out.1.lst
    have h_ := hM.lb.cell 1
    rw [last_app] at h_
    exact h_⟩ (fun hHeld => ?_)
  clear hK K_
  generalize We.alloc (.cells #[.pointer (some ⟨q, 0, none⟩)] 110) = W3 at P4 hHeld ⊢
  generalize We.heap.size = q2 at P4 ⊢
  refine norm_ (a' := ?_) ?_ ?_
  rotate_left
  · show Act.put _ (some 45) _ = _
    simp only [Act.put, List.setIfInBounds_toArray, List.set_cons_zero, List.set_cons_succ]
    rfl
  refine one_ (i := 13) (N := some 46) #[true, true, true, true, true, true, true, true, true, true, true, true, true, true, false, false, false] rfl rfl (one_of HT_.out (by kernel_rfl)) (by decide) (fun K_ hK => ?_)
  refine Row.append_step ptrK rfl (.tmp 37) (.tmp 45) 68 110 (.pointer none) 8 rfl undPn infoPn rfl (by decide) base (.slice A m c) ns q [.pointer (some ⟨q, 0, none⟩)] (fun _ => True) (fun _ => False) W3 rfl (by have h_ := P4.out.1.nod; rw [HM.out] at h_; exact h_) ⟨q2, 0, none⟩ 1 rfl rfl ?acs (fun _ h => h.elim) (fun _ _ => trivial) ?aln (by omega) (by have h_ := P4.out.1.lt; have h2_ := HBS.out; omega) ?_
  case acs =>
    intro j u hj
    match j, hj with
    | 0, hj =>
      rw [Addr.add_zero', P4.out.2.cell 0]
      simpa using hj
  case aln => have h_ := HL.out; have h2_ := HM.out; omega
  intro v1 W4 hR hg hat
  obtain ⟨A4, c4, rfl⟩ := Kd.R_slice hR
  have H4 := hid (P4.out.1.grew hR (by rw [HM.out]; exact hg))
  clear hR hg hat
  refine hK.out _ _ ⟨by have := H4.out.blk.cell 1; rw [HM.out] at this; exact this, H4.out.blk.cell 0, by
    obtain ⟨P, X, hM, _⟩ := H4.out.lst
    have h_ := hM.lb.cell 1
    rw [last_app] at h_
    exact h_⟩ (fun hHeld => ?_)
  clear hK K_
  refine norm_ (a' := ?_) ?_ ?_
  rotate_left
  · show Act.put _ (some 46) _ = _
    simp only [Act.put, List.setIfInBounds_toArray, List.set_cons_zero, List.set_cons_succ]
    rfl
  refine pure_ (i := 14) (N := some 47) (v := ?_) (a' := ?_) #[true, true, true, true, true, true, true, true, true, true, true, true, true, true, true, false, false] rfl rfl (any_of HT_.out (by kernel_rfl)) (fun _ _ _ h => h) (Or.inl ⟨by rfl, ?_⟩) ?_ ?_
  rotate_left
  · intro w'
    go_simp
    with_reducible rfl
  rotate_left
  · simp only [Act.put, List.setIfInBounds_toArray, List.set_cons_zero, List.set_cons_succ]
    rfl
  refine pure_ (i := 15) (N := some 48) (v := ?_) (a' := ?_) #[true, true, true, true, true, true, true, true, true, true, true, true, true, true, true, true, false] rfl rfl (any_of HT_.out (by kernel_rfl)) (fun _ _ _ h => h) (Or.inl ⟨by rfl, ?_⟩) ?_ ?_
  rotate_left
  · intro w'
    go_simp
    with_reducible rfl
  rotate_left
  · simp only [Act.put, List.setIfInBounds_toArray, List.set_cons_zero, List.set_cons_succ]
    rfl
  have d4 : W4.cell? ⟨Rb, 1, none⟩ = some (.slice A m c) := by have := H4.out.blk.cell 1; rw [HM.out] at this; exact this
  have f4 : W4.frozen? ⟨Rb, 1, none⟩ = false := H4.out.blk.free 1
  refine last_ (i := 16) (N := none) #[true, true, true, true, true, true, true, true, true, true, true, true, true, true, true, true, true] rfl rfl (one_of HT_.out (by kernel_rfl)) (by decide) (fun K_ hK => ?_)
  refine skip_ (w1 := ?_) (by rfl) rfl ?_ ?_
  rotate_left
  · go_simp
    rfl
  refine hK.out _ _ ?_
  clear hK K_
  refine done_ (done_of HT_.out (by kernel_rfl)) ?_
  clear HT_ HW_
  clear d4 f4
  have H5 := hid (H4.out.fin P4.out.1.x4 P4.out.1.x5 rfl P4.out.1.lt HGE.out HQN.out.2.2)
  have hl4 : (ns ++ [q]).length = ns.length + 1 := by simp
  rw [hl4] at H5
  clear hl4 H4 P4 P3 hHeld
  go_upto_region 17 with fail
  generalize W4.setCell ⟨Rb, 1, none⟩ (.slice A4 (ns.length + 1) c4) = W5 at H5 ⊢
  have p0 : W5.cell? ⟨w.heap.size + 2, 0, none⟩ = some (.int .i64 0) := H5.out.x5.cell 0
  have p1 : W5.cell? ⟨w.heap.size + 2, 1, none⟩ = some (.bool false) := H5.out.x5.cell 1
  have p2 : W5.cell? ⟨w.heap.size + 2, 2, none⟩ = some (.slice none 0 0) := H5.out.x5.cell 2
  have p3 : W5.cell? ⟨w.heap.size + 2, 3, none⟩ = some (.slice none 0 0) := H5.out.x5.cell 3
  have q0 : W5.cell? ⟨w.heap.size + 1, 0, none⟩ = some (.int .i64 0) := H5.out.x4.cell 0
  have z0 : W5.frozen? ⟨w.heap.size + 1, 0, none⟩ = false := H5.out.x4.free 0
  have q1 : W5.cell? ⟨w.heap.size + 1, 1, none⟩ = some (.bool false) := H5.out.x4.cell 1
  have z1 : W5.frozen? ⟨w.heap.size + 1, 1, none⟩ = false := H5.out.x4.free 1
  have q2 : W5.cell? ⟨w.heap.size + 1, 2, none⟩ = some (.slice none 0 0) := H5.out.x4.cell 2
  have z2 : W5.frozen? ⟨w.heap.size + 1, 2, none⟩ = false := H5.out.x4.free 2
  have q3 : W5.cell? ⟨w.heap.size + 1, 3, none⟩ = some (.slice none 0 0) := H5.out.x4.cell 3
  have z3 : W5.frozen? ⟨w.heap.size + 1, 3, none⟩ = false := H5.out.x4.free 3
  go_wp2_with fail
  refine bodyPost_ret (v := .agg #[.int .i64 0, .bool false, .slice none 0 0, .slice none 0 0]) (by simp [results, Try.results41, go_sem, q0, q1, q2, q3]) rfl ?_
  have hF4 : Fr (· = w.heap.size + 1) W5 ((((W5.setCell ⟨w.heap.size + 1, 0, none⟩ (.int .i64 0)).setCell ⟨w.heap.size + 1, 1, none⟩ (.bool false)).setCell ⟨w.heap.size + 1, 2, none⟩ (.slice none 0 0)).setCell ⟨w.heap.size + 1, 3, none⟩ (.slice none 0 0)) := (((Fr.one).then Fr.one).then Fr.one).then Fr.one
  obtain ⟨a1, a2, a3⟩ := H5.out.outF H5.out.x4 (Nat.le_succ _) hF4
  exact ⟨_, _, q, rfl, a1, a3 _ _ H5.out.keys, a2, HQN.out.1, HQN.out.2.1⟩
def rd10.T : Bool × List (List Nat × List Nat) := (true, [([], []), ([], []), ([1], [1]), ([2], [2]), ([3], [3]), ([], []), ([5], [5]), ([6], [6]), ([7], [7]), ([8], [8]), ([9], [9]), ([10], [10]), ([11], [11]), ([4, 12], [4, 12]), ([0, 0, 1, 2, 3, 4, 5, 6, 7, 8, 9, 10, 11, 12, 13], [0]), ([14, 0, 1, 2, 3, 4, 5, 6, 7, 8, 9, 10, 11, 12, 13], [14]), ([15, 13, 13, 0, 1, 2, 3, 4, 5, 6, 7, 8, 9, 10, 11, 12, 13], [13, 15])])
def rd10.B : List Nat := [0, 0, 2, 6, 14, 0, 32, 96, 224, 480, 992, 2016, 4064, 8190, 16383, 32767, 65535]
theorem rd10.tab : rtab .any (opsOf Try.f41 10) = rd10.T := by kernel_rfl
theorem rd10.bits : waitsOk rd10.T.2 rd10.B = true := by kernel_rfl
set_option maxHeartbeats 16000000 in
set_option maxRecDepth 100000 in
theorem do1_any (base Rb Lb : Nat) (w : World) (ns : List Nat) (V : Nat → Int) (row : List Nat) (vn : Value) (o key val : Int) (hR : Ring base Rb Lb w ns V row vn) (hb : base ≤ w.heap.size) (hl : ns.length ≤ 1099511627776) :
    Calls Try.prog 41 #[.pointer (some ⟨Rb, 0, none⟩), .agg #[.int .i64 o, .int .i64 1, .int .i64 key, .int .i64 val]] w fun e w' => ∃ kv vn' q, e = .returned (.agg #[.int .i64 0, .bool false, kv, .slice none 0 0]) ∧
      Ring base Rb Lb w' (ns ++ [q]) (fun k => if k = q then key else V k) (q :: row) vn' ∧ Ro w' w.heap.size kv [] ∧ Fr (Zr base w) w w' ∧ w.heap.size ≤ q ∧ q ∉ ns := by
  obtain ⟨A, c, rfl⟩ := Kd.R_slice hR.nod
  obtain ⟨m, hm⟩ : ∃ m, ns.length = m := ⟨_, rfl⟩
  have HM := hid hm
  have HBS := hid hb
  clear hm hb
  have H0 := hid (Nd.start hR #[.int .i64 o, .int .i64 1, .int .i64 key, .int .i64 val])
  have HS : Hid (Blk (((w.alloc (.cells #[.int .i64 o, .int .i64 1, .int .i64 key, .int .i64 val] 27)).alloc (.cells (F4k (.slice none 0 0)) 34)).alloc (.cells (F4k (.slice none 0 0)) 34)) w.heap.size #[.int .i64 o, .int .i64 1, .int .i64 key, .int .i64 val] 27) := hid (((Blk.new w _ _).alloc _).alloc _)
  have HL := hid hl
  clear hR hl
  go_enter Try.func41, Try.ntmps41
  go_upto_region 2 with fail
  change Code.wp _ _ _ _ (((w.alloc (.cells #[.int .i64 o, .int .i64 1, .int .i64 key, .int .i64 val] 27)).alloc (.cells (F4k (.slice none 0 0)) 34)).alloc (.cells (F4k (.slice none 0 0)) 34))
  generalize ((w.alloc (.cells #[.int .i64 o, .int .i64 1, .int .i64 key, .int .i64 val] 27)).alloc (.cells (F4k (.slice none 0 0)) 34)).alloc (.cells (F4k (.slice none 0 0)) 34) = W1 at H0 HS ⊢
  have k1 : W1.cell? ⟨w.heap.size, 1, none⟩ = some (.int .i64 1) := HS.out.cell 1
  have l0 : W1.cell? ⟨Rb, 0, none⟩ = some (.pointer (some ⟨Lb, 0, none⟩)) := H0.out.ring.blk.cell 0
  have k2 : W1.cell? ⟨w.heap.size, 2, none⟩ = some (.int .i64 key) := HS.out.cell 2
  have H1 := hid (H0.out.below (W1 := W1.drew) ⟨rfl, rfl, rfl, Nat.le_refl _, fun _ _ => rfl⟩)
  go_upto_region 9 with fail
  go_still_tail 6, (by kernel_rfl)
  change wpList _ _ _ _ _ W1.drew
  clear k1 k2 l0 H0 HS
  generalize W1.drew = Wd at H1 ⊢
  go_wp2_with fail
  refine (front_val Wd Lb ns row V key H1.out.ring.lst).mono ?_
  rintro e W2 ⟨rfl, hL, hF⟩
  obtain ⟨q, hq⟩ : ∃ q, Wd.heap.size = q := ⟨_, rfl⟩
  have HQN : Hid (w.heap.size ≤ q ∧ q ∉ ns ∧ base ≤ q) := by
    subst hq
    exact hid ⟨by have := H1.out.lt; omega, fun hk => by have := H1.out.ring.lst.ltN _ hk; omega, by have := H1.out.lt; have := HBS.out; omega⟩
  rw [hq] at hL
  have P2 := hid (pd_of H1.out hL hF)
  have HGE := hid H1.out.ring.ge
  clear hL hF hq H1
  have r1 : W2.cell? ⟨Rb, 1, none⟩ = some (.slice A m c) := by have := P2.out.blk.cell 1; rw [HM.out] at this; exact this
  have r0 : W2.cell? ⟨Rb, 0, none⟩ = some (.pointer (some ⟨Lb, 0, none⟩)) := P2.out.blk.cell 0
  have rl : W2.cell? ⟨Lb, 0, none⟩ = some (.pointer (some ⟨q, 0, none⟩)) := by
    obtain ⟨P, X, hM, _⟩ := P2.out.lst
    have h_ := hM.lb.cell 0
    skip
    exact h_
  go_upto_region 10 with fail
  have P3 := hid (P2.out.below (W1 := W2.drew) ⟨rfl, rfl, rfl, Nat.le_refl _, fun _ _ => rfl⟩)
  refine start_ (n := 17) (S := fun w' => w'.cell? ⟨Rb, 1, none⟩ = some (.slice A m c) ∧ w'.cell? ⟨Rb, 0, none⟩ = some (.pointer (some ⟨Lb, 0, none⟩)) ∧ w'.cell? ⟨Lb, 0, none⟩ = some (.pointer (some ⟨q, 0, none⟩))) (ds := [16]) #[false, false, false, false, false, false, false, false, false, false, false, false, false, false, false, false, false] (by kernel_rfl) rfl rfl ⟨r1, r0, rl⟩ (fun hHeld => ?_)
  refine with_tabW rd10.tab rd10.bits (fun HT_ HW_ => ?_)
  clear r1 r0 rl P2
  generalize W2.drew = We at P3 hHeld ⊢
  refine pure_ (i := 0) (N := some 58) (v := ?_) (a' := ?_) #[true, false, false, false, false, false, false, false, false, false, false, false, false, false, false, false, false] rfl rfl (any_of HT_.out (by kernel_rfl)) (fun _ _ _ h => h) (Or.inl ⟨by rfl, ?_⟩) ?_ ?_
  rotate_left
  · intro w'
    go_simp
    with_reducible rfl
  rotate_left
  · simp only [Act.put, List.setIfInBounds_toArray, List.set_cons_zero, List.set_cons_succ]
    rfl
  refine pure_ (i := 1) (N := some 59) (v := ?_) (a' := ?_) #[true, true, false, false, false, false, false, false, false, false, false, false, false, false, false, false, false] rfl rfl (any_of HT_.out (by kernel_rfl)) (fun _ _ _ h => h) (Or.inl ⟨by rfl, ?_⟩) ?_ ?_
  rotate_left
  · intro w'
    go_simp
    with_reducible rfl
  rotate_left
  · simp only [Act.put, List.setIfInBounds_toArray, List.set_cons_zero, List.set_cons_succ]
    rfl
  refine pure_ (i := 2) (N := some 60) (v := ?_) (a' := ?_) #[true, true, true, false, false, false, false, false, false, false, false, false, false, false, false, false, false] rfl rfl (any_of HT_.out (by kernel_rfl)) (fun _ _ _ h => h) (Or.inl ⟨by rfl, ?_⟩) ?_ ?_
  rotate_left
  · intro w'
    go_simp
    with_reducible rfl
  rotate_left
  · simp only [Act.put, List.setIfInBounds_toArray, List.set_cons_zero, List.set_cons_succ]
    rfl
  refine pure_ (i := 3) (N := some 61) (v := ?_) (a' := ?_) #[true, true, true, true, false, false, false, false, false, false, false, false, false, false, false, false, false] rfl rfl (any_of HT_.out (by kernel_rfl)) (fun _ _ _ h => h) (Or.inl ⟨by rfl, ?_⟩) ?_ ?_
  rotate_left
  · intro w'
    go_simp
    with_reducible rfl
  rotate_left
  · simp only [Act.put, List.setIfInBounds_toArray, List.set_cons_zero, List.set_cons_succ]
    rfl
  refine take_ (i := 4) (N := some 62) (v := ?_) (a' := ?_) #[true, true, true, true, true, false, false, false, false, false, false, false, false, false, false, false, false] rfl rfl (take_ofW HT_.out HW_.out (by kernel_rfl)) (fun _ _ _ h => h) (Or.inl ⟨by rfl, ?_⟩) hHeld ?_ ?_
  rotate_left
  · intro w' s0
    obtain ⟨s1, s2, s3⟩ := s0
    go_simp
    with_reducible rfl
  rotate_left
  · simp only [Act.put, List.setIfInBounds_toArray, List.set_cons_zero, List.set_cons_succ]
    rfl
  refine pure_ (i := 5) (N := some 63) (v := ?_) (a' := ?_) #[true, true, true, true, true, true, false, false, false, false, false, false, false, false, false, false, false] rfl rfl (any_of HT_.out (by kernel_rfl)) (fun _ _ _ h => h) (Or.inl ⟨by rfl, ?_⟩) ?_ ?_
  rotate_left
  · intro w'
    go_simp
    with_reducible rfl
  rotate_left
  · simp only [Act.put, List.setIfInBounds_toArray, List.set_cons_zero, List.set_cons_succ]
    rfl
  refine pure_ (i := 6) (N := some 64) (v := ?_) (a' := ?_) #[true, true, true, true, true, true, true, false, false, false, false, false, false, false, false, false, false] rfl rfl (any_of HT_.out (by kernel_rfl)) (fun _ _ _ h => h) (Or.inl ⟨by rfl, ?_⟩) ?_ ?_
  rotate_left
  · intro w'
    go_simp
    with_reducible rfl
  rotate_left
  · simp only [Act.put, List.setIfInBounds_toArray, List.set_cons_zero, List.set_cons_succ]
    rfl
  refine pure_ (i := 7) (N := some 65) (v := ?_) (a' := ?_) #[true, true, true, true, true, true, true, true, false, false, false, false, false, false, false, false, false] rfl rfl (any_of HT_.out (by kernel_rfl)) (fun _ _ _ h => h) (Or.inl ⟨by rfl, ?_⟩) ?_ ?_
  rotate_left
  · intro w'
    go_simp
    with_reducible rfl
  rotate_left
  · simp only [Act.put, List.setIfInBounds_toArray, List.set_cons_zero, List.set_cons_succ]
    rfl
  refine take_ (i := 8) (N := some 66) (v := ?_) (a' := ?_) #[true, true, true, true, true, true, true, true, true, false, false, false, false, false, false, false, false] rfl rfl (take_ofW HT_.out HW_.out (by kernel_rfl)) (fun _ _ _ h => h) (Or.inl ⟨by rfl, ?_⟩) hHeld ?_ ?_
  rotate_left
  · intro w' s0
    obtain ⟨s1, s2, s3⟩ := s0
    go_simp
    with_reducible rfl
  rotate_left
  · simp only [Act.put, List.setIfInBounds_toArray, List.set_cons_zero, List.set_cons_succ]
    rfl
  refine pure_ (i := 9) (N := some 67) (v := ?_) (a' := ?_) #[true, true, true, true, true, true, true, true, true, true, false, false, false, false, false, false, false] rfl rfl (any_of HT_.out (by kernel_rfl)) (fun _ _ _ h => h) (Or.inl ⟨by rfl, ?_⟩) ?_ ?_
  rotate_left
  · intro w'
    go_simp
    with_reducible rfl
  rotate_left
  · simp only [Act.put, List.setIfInBounds_toArray, List.set_cons_zero, List.set_cons_succ]
    rfl
  refine pure_ (i := 10) (N := some 68) (v := ?_) (a' := ?_) #[true, true, true, true, true, true, true, true, true, true, true, false, false, false, false, false, false] rfl rfl (any_of HT_.out (by kernel_rfl)) (fun _ _ _ h => h) (Or.inl ⟨by rfl, ?_⟩) ?_ ?_
  rotate_left
  · intro w'
    go_simp
    with_reducible rfl
  rotate_left
  · simp only [Act.put, List.setIfInBounds_toArray, List.set_cons_zero, List.set_cons_succ]
    rfl
  refine take_ (i := 11) (N := some 69) (v := ?_) (a' := ?_) #[true, true, true, true, true, true, true, true, true, true, true, true, false, false, false, false, false] rfl rfl (take_ofW HT_.out HW_.out (by kernel_rfl)) (fun _ _ _ h => h) (Or.inl ⟨by rfl, ?_⟩) hHeld ?_ ?_
  rotate_left
  · intro w' s0
    obtain ⟨s1, s2, s3⟩ := s0
    go_simp
    with_reducible rfl
  rotate_left
  · simp only [Act.put, List.setIfInBounds_toArray, List.set_cons_zero, List.set_cons_succ]
    rfl
  have P4 : Hid (Pd base Rb Lb w.heap.size w (We.alloc (.cells #[.pointer (some ⟨q, 0, none⟩)] 110)) ns (ns ++ [q]) (fun k => if k = q then key else V k) (q :: row) (.slice A ns.length c) ∧ Blk (We.alloc (.cells #[.pointer (some ⟨q, 0, none⟩)] 110)) We.heap.size #[.pointer (some ⟨q, 0, none⟩)] 110) := hid ⟨P3.out.below ((Below.refl _ _).alloc (Nat.le_refl _) _), Blk.new _ _ _⟩
  refine one_ (i := 12) (N := some 70) #[true, true, true, true, true, true, true, true, true, true, true, true, true, false, false, false, false] rfl rfl (one_of HT_.out (by kernel_rfl)) (by decide) (fun K_ hK => ?_)
  refine value_ (w1 := ?_) (v := ?_) (by rfl) rfl ?_ ?_
  rotate_left 2
  · go_simp
    constructor
    · rfl
    · rfl
  refine hK.out _ _ ⟨by have := P4.out.1.blk.cell 1; rw [HM.out] at this; exact this, P4.out.1.blk.cell 0, by
    obtain ⟨P, X, hM, _⟩ := P4.out.1.lst
    have h_ := hM.lb.cell 0
    skip
    exact h_⟩ (fun hHeld => ?_)
  clear hK K_
  generalize We.alloc (.cells #[.pointer (some ⟨q, 0, none⟩)] 110) = W3 at P4 hHeld ⊢
  generalize We.heap.size = q2 at P4 ⊢
  refine norm_ (a' := ?_) ?_ ?_
  rotate_left
  · show Act.put _ (some 70) _ = _
    simp only [Act.put, List.setIfInBounds_toArray, List.set_cons_zero, List.set_cons_succ]
    rfl
  refine one_ (i := 13) (N := some 71) #[true, true, true, true, true, true, true, true, true, true, true, true, true, true, false, false, false] rfl rfl (one_of HT_.out (by kernel_rfl)) (by decide) (fun K_ hK => ?_)
  refine Row.append_step ptrK rfl (.tmp 62) (.tmp 70) 68 110 (.pointer none) 8 rfl undPn infoPn rfl (by decide) base (.slice A m c) ns q [.pointer (some ⟨q, 0, none⟩)] (fun _ => True) (fun _ => False) W3 rfl (by have h_ := P4.out.1.nod; rw [HM.out] at h_; exact h_) ⟨q2, 0, none⟩ 1 rfl rfl ?acs (fun _ h => h.elim) (fun _ _ => trivial) ?aln (by omega) (by have h_ := P4.out.1.lt; have h2_ := HBS.out; omega) ?_
  case acs =>
    intro j u hj
    match j, hj with
    | 0, hj =>
      rw [Addr.add_zero', P4.out.2.cell 0]
      simpa using hj
  case aln => have h_ := HL.out; have h2_ := HM.out; omega
  intro v1 W4 hR hg hat
  obtain ⟨A4, c4, rfl⟩ := Kd.R_slice hR
  have H4 := hid (P4.out.1.grew hR (by rw [HM.out]; exact hg))
  clear hR hg hat
  refine hK.out _ _ ⟨by have := H4.out.blk.cell 1; rw [HM.out] at this; exact this, H4.out.blk.cell 0, by
    obtain ⟨P, X, hM, _⟩ := H4.out.lst
    have h_ := hM.lb.cell 0
    skip
    exact h_⟩ (fun hHeld => ?_)
  clear hK K_
  refine norm_ (a' := ?_) ?_ ?_
  rotate_left
  · show Act.put _ (some 71) _ = _
    simp only [Act.put, List.setIfInBounds_toArray, List.set_cons_zero, List.set_cons_succ]
    rfl
  refine pure_ (i := 14) (N := some 72) (v := ?_) (a' := ?_) #[true, true, true, true, true, true, true, true, true, true, true, true, true, true, true, false, false] rfl rfl (any_of HT_.out (by kernel_rfl)) (fun _ _ _ h => h) (Or.inl ⟨by rfl, ?_⟩) ?_ ?_
  rotate_left
  · intro w'
    go_simp
    with_reducible rfl
  rotate_left
  · simp only [Act.put, List.setIfInBounds_toArray, List.set_cons_zero, List.set_cons_succ]
    rfl
  refine pure_ (i := 15) (N := some 73) (v := ?_) (a' := ?_) #[true, true, true, true, true, true, true, true, true, true, true, true, true, true, true, true, false] rfl rfl (any_of HT_.out (by kernel_rfl)) (fun _ _ _ h => h) (Or.inl ⟨by rfl, ?_⟩) ?_ ?_
  rotate_left
  · intro w'
    go_simp
    with_reducible rfl
  rotate_left
  · simp only [Act.put, List.setIfInBounds_toArray, List.set_cons_zero, List.set_cons_succ]
    rfl
  have d4 : W4.cell? ⟨Rb, 1, none⟩ = some (.slice A m c) := by have := H4.out.blk.cell 1; rw [HM.out] at this; exact this
  have f4 : W4.frozen? ⟨Rb, 1, none⟩ = false := H4.out.blk.free 1
  refine last_ (i := 16) (N := none) #[true, true, true, true, true, true, true, true, true, true, true, true, true, true, true, true, true] rfl rfl (one_of HT_.out (by kernel_rfl)) (by decide) (fun K_ hK => ?_)
  refine skip_ (w1 := ?_) (by rfl) rfl ?_ ?_
  rotate_left
  · go_simp
    rfl
  refine hK.out _ _ ?_
  clear hK K_
  refine done_ (done_of HT_.out (by kernel_rfl)) ?_
  clear HT_ HW_
  clear d4 f4
  have H5 := hid (H4.out.fin P4.out.1.x4 P4.out.1.x5 rfl P4.out.1.lt HGE.out HQN.out.2.2)
  have hl4 : (ns ++ [q]).length = ns.length + 1 := by simp
  rw [hl4] at H5
  clear hl4 H4 P4 P3 hHeld
  go_upto_region 17 with fail
  generalize W4.setCell ⟨Rb, 1, none⟩ (.slice A4 (ns.length + 1) c4) = W5 at H5 ⊢
  have p0 : W5.cell? ⟨w.heap.size + 2, 0, none⟩ = some (.int .i64 0) := H5.out.x5.cell 0
  have p1 : W5.cell? ⟨w.heap.size + 2, 1, none⟩ = some (.bool false) := H5.out.x5.cell 1
  have p2 : W5.cell? ⟨w.heap.size + 2, 2, none⟩ = some (.slice none 0 0) := H5.out.x5.cell 2
  have p3 : W5.cell? ⟨w.heap.size + 2, 3, none⟩ = some (.slice none 0 0) := H5.out.x5.cell 3
  have q0 : W5.cell? ⟨w.heap.size + 1, 0, none⟩ = some (.int .i64 0) := H5.out.x4.cell 0
  have z0 : W5.frozen? ⟨w.heap.size + 1, 0, none⟩ = false := H5.out.x4.free 0
  have q1 : W5.cell? ⟨w.heap.size + 1, 1, none⟩ = some (.bool false) := H5.out.x4.cell 1
  have z1 : W5.frozen? ⟨w.heap.size + 1, 1, none⟩ = false := H5.out.x4.free 1
  have q2 : W5.cell? ⟨w.heap.size + 1, 2, none⟩ = some (.slice none 0 0) := H5.out.x4.cell 2
  have z2 : W5.frozen? ⟨w.heap.size + 1, 2, none⟩ = false := H5.out.x4.free 2
  have q3 : W5.cell? ⟨w.heap.size + 1, 3, none⟩ = some (.slice none 0 0) := H5.out.x4.cell 3
  have z3 : W5.frozen? ⟨w.heap.size + 1, 3, none⟩ = false := H5.out.x4.free 3
  go_wp2_with fail
  refine bodyPost_ret (v := .agg #[.int .i64 0, .bool false, .slice none 0 0, .slice none 0 0]) (by simp [results, Try.results41, go_sem, q0, q1, q2, q3]) rfl ?_
  have hF4 : Fr (· = w.heap.size + 1) W5 ((((W5.setCell ⟨w.heap.size + 1, 0, none⟩ (.int .i64 0)).setCell ⟨w.heap.size + 1, 1, none⟩ (.bool false)).setCell ⟨w.heap.size + 1, 2, none⟩ (.slice none 0 0)).setCell ⟨w.heap.size + 1, 3, none⟩ (.slice none 0 0)) := (((Fr.one).then Fr.one).then Fr.one).then Fr.one
  obtain ⟨a1, a2, a3⟩ := H5.out.outF H5.out.x4 (Nat.le_succ _) hF4
  exact ⟨_, _, q, rfl, a1, a3 _ _ H5.out.keys, a2, HQN.out.1, HQN.out.2.1⟩
end Go.Proofs.Ytmhnhfmkcipcpaa.Lists

namespace Go.Proofs.Ytmhnhfmkcipcpaa.Lists
open Go Go.RowKit Go.Proofs.Ytmhnhfmkcipcpaa.Hk Go.Proofs.Ytmhnhfmkcipcpaa.ListPure Go.Proofs.Ytmhnhfmkcipcpaa.Heap Go.Proofs.Ytmhnhfmkcipcpaa.Seen Go.Proofs.Ytmhnhfmkcipcpaa.LinePure Go.Proofs.YtmhnhfmkcipcpaaW.PrintWords Go.Proofs.YtmhnhfmkcipcpaaW.PrintLast Go.Proofs.YtmhnhfmkcipcpaaW.PrintMore
theorem nodup_le : ∀ (l m : List Nat), l.Nodup → (∀ k ∈ l, k ∈ m) → l.length ≤ m.length
  | [], _, _, _ => Nat.zero_le _
  | a :: l, m, hd, hs => by
    obtain ⟨h1, h2⟩ := List.nodup_cons.1 hd
    have ha := hs a (by simp)
    have h3 := nodup_le l (m.erase a) h2 (fun k hk => (List.mem_erase_of_ne (fun (e : k = a) => h1 (e ▸ hk))).2 (hs k (by simp [hk])))
    rw [List.length_erase_of_mem ha] at h3
    have := List.length_pos_of_mem ha
    simp only [List.length_cons]
    omega
section
variable {base Rb Lb : Nat} {w : World} {ns row : List Nat} {V : Nat → Int} {vn : Value} {b : Line}
theorem Ring.len (h : Ring base Rb Lb w ns V row vn) : row.length ≤ ns.length := by
  obtain ⟨P, X, _, _, hD, hS⟩ := h.lst
  exact nodup_le _ _ hD hS
/-- What a step on a node is, by numbers. -/
theorem node_rel (h : Rel b ns V row) {d key o : Int} {k n : Nat} (hk : ns[k]? = some n) (h0 : ¬ d = 0) (h1 : ¬ d = 1) (h5 : ¬ d = 5) (h6 : ¬ d = 6) (h9 : ¬ d = 9) :
    Rel (stepL b (o, d, key, (k : Int))) ns V (rowN d n row) ∧ keysN V d n row = tellL b (o, d, key, (k : Int)) := by
  constructor
  · unfold stepL rowN
    simp only [Int.toNat_natCast]
    rw [if_neg h0, if_neg h1]
    by_cases h2 : d = 2
    · rw [if_pos h2, if_pos h2]; exact h.out hk
    · rw [if_neg h2, if_neg h2]
      by_cases h3 : d = 3
      · rw [if_pos h3, if_pos h3]; exact (h.put hk).1
      · rw [if_neg h3, if_neg h3]
        by_cases h4 : d = 4
        · rw [if_pos h4, if_pos h4]; exact (h.put hk).2
        · rw [if_neg h4, if_neg h4, if_neg h9]; exact h
  · unfold tellL keysN
    simp only [Int.toNat_natCast]
    rw [if_neg h5, if_neg h6, h.idx hk, h.row]
    by_cases h7 : d = 7
    · rw [if_pos h7, if_pos h7, ← List.map_drop]
      exact h.vals _ (fun k hk => h.sub k (List.mem_of_mem_drop hk))
    · rw [if_neg h7, if_neg h7]
      by_cases h8 : d = 8
      · rw [if_pos h8, if_pos h8, ← List.map_take, h.vals _ (fun k hk => h.sub k (List.mem_of_mem_take hk))]
      · rw [if_neg h8, if_neg h8]
theorem none_rel (h : Rel b ns V row) {d key o val : Int} (hm : May b (o, d, key, val)) (hv : val < 0 ∨ (ns.length : Int) ≤ val) (h0 : ¬ d = 0) (h1 : ¬ d = 1) (h5 : ¬ d = 5) (h6 : ¬ d = 6) (h9 : ¬ d = 9) :
    stepL b (o, d, key, val) = b ∧ tellL b (o, d, key, val) = [] := by
  obtain ⟨m1, m2⟩ := hm
  simp only at m1 m2
  have hl := h.len
  have a2 : ¬ (d = 2 ∨ d = 7 ∨ d = 8) := fun e => by
    obtain ⟨e1, e2⟩ := m1 e
    have := h.sub _ e2
    omega
  have a3 : ¬ (d = 3 ∨ d = 4) := fun e => by
    obtain ⟨e1, e2, _⟩ := m2 e
    omega
  constructor
  · unfold stepL
    simp only
    rw [if_neg h0, if_neg h1, if_neg (fun e => a2 (.inl e)), if_neg (fun e => a3 (.inl e)), if_neg (fun e => a3 (.inr e)), if_neg h9]
  · unfold tellL
    simp only
    rw [if_neg h5, if_neg h6, if_neg (fun e => a2 (.inr (.inl e))), if_neg (fun e => a2 (.inr (.inr e)))]
theorem step_any (o d key val : Int) (hR : Ring base Rb Lb w ns V row vn) (hQ : Rel b ns V row) (hm : May b (o, d, key, val)) (hb : base ≤ w.heap.size) (hl : ns.length ≤ 1099511627776) :
    Calls Try.prog 41 #[.pointer (some ⟨Rb, 0, none⟩), .agg #[.int .i64 o, .int .i64 d, .int .i64 key, .int .i64 val]] w fun e w' => ∃ kv vn' ns' V' row', e = .returned (.agg #[.int .i64 0, .bool false, kv, .slice none 0 0]) ∧
      Ring base Rb Lb w' ns' V' row' vn' ∧ Rel (stepL b (o, d, key, val)) ns' V' row' ∧ Ro w' w.heap.size kv (tellL b (o, d, key, val)) ∧ Fr (Zr base w) w w' ∧ ns'.length ≤ ns.length + 1 := by
  have hlr : row.length ≤ 1099511627776 := Nat.le_trans hR.len hl
  by_cases h0 : d = 0
  · subst h0
    refine (do0_any base Rb Lb w ns V row vn o key val hR hb hl).mono ?_
    rintro e w' ⟨kv, vn', q, he, h1, h2, h3, h4, h5⟩
    exact ⟨kv, vn', _, _, _, he, h1, hQ.back h5 key, h2, h3, by rw [List.length_append, List.length_singleton]; exact Nat.le_refl _⟩
  by_cases h1 : d = 1
  · subst h1
    refine (do1_any base Rb Lb w ns V row vn o key val hR hb hl).mono ?_
    rintro e w' ⟨kv, vn', q, he, h1, h2, h3, h4, h5⟩
    exact ⟨kv, vn', _, _, _, he, h1, hQ.front h5 key, h2, h3, by rw [List.length_append, List.length_singleton]; exact Nat.le_refl _⟩
  by_cases h5 : d = 5
  · subst h5
    refine (do5_any base Rb Lb w ns V row vn o key val hR hlr).mono ?_
    rintro e w' ⟨kv, he, h1, h2, h3⟩
    refine ⟨kv, vn, _, _, _, he, h1, hQ, ?_, h3, Nat.le_succ _⟩
    have e1 : tellL b (o, 5, key, val) = row.map V := by
      rw [hQ.row]; exact (hQ.vals b.2 hQ.sub).symm
    rw [e1]; exact h2
  by_cases h6 : d = 6
  · subst h6
    refine (do6_any base Rb Lb w ns V row vn o key val hR hlr).mono ?_
    rintro e w' ⟨kv, he, h1, h2, h3⟩
    refine ⟨kv, vn, _, _, _, he, h1, hQ, ?_, h3, Nat.le_succ _⟩
    have e1 : tellL b (o, 6, key, val) = (row.map V).reverse := by
      rw [hQ.row, hQ.vals b.2 hQ.sub]; rfl
    rw [e1]; exact h2
  by_cases h9 : d = 9
  · subst h9
    refine (do9_any base Rb Lb w ns V row vn o key val hR hb hl).mono ?_
    rintro e w' ⟨kv, vn', q, he, h1, h2, h3, h4, h5⟩
    exact ⟨kv, vn', _, _, _, he, h1, hQ.add h5 key, h2, h3, by rw [List.length_append, List.length_singleton]; exact Nat.le_refl _⟩
  by_cases hv : val < 0 ∨ (ns.length : Int) ≤ val
  · refine (doNone_any base Rb Lb w ns V row vn o d key val hR hlr hv h0 h1 h5 h6 h9).mono ?_
    rintro e w' ⟨kv, he, g1, g2, g3⟩
    obtain ⟨e1, e2⟩ := none_rel hQ hm hv h0 h1 h5 h6 h9
    rw [e1, e2]
    exact ⟨kv, vn, _, _, _, he, g1, hQ, g2, g3, Nat.le_succ _⟩
  · obtain ⟨k, rfl⟩ : ∃ k : Nat, val = (k : Int) := ⟨val.toNat, by omega⟩
    have hk : k < ns.length := by omega
    have hg : ns[k]? = some ns[k] := List.getElem?_eq_getElem hk
    obtain ⟨m1, m2⟩ := hm
    simp only [Int.toNat_natCast] at m1 m2
    refine (doNode_any base Rb Lb w ns V row vn o d key k ns[k] hR hlr hg (fun e => (hQ.mem hg).2 (m1 e).2) (fun e hh => (m2 e).2.2 ((hQ.mem hg).1 hh)) hl h0 h1 h5 h6 h9).mono ?_
    rintro e w' ⟨kv, he, g1, g2, g3⟩
    obtain ⟨e1, e2⟩ := node_rel (o := o) (key := key) hQ hg h0 h1 h5 h6 h9
    rw [← e2]
    exact ⟨kv, vn, _, _, _, he, g1, e1, g2, g3, Nat.le_succ _⟩
end
end Go.Proofs.Ytmhnhfmkcipcpaa.Lists

namespace Go.Proofs.Ytmhnhfmkcipcpaa.Lists
open Go Go.RowKit Go.Proofs.Ytmhnhfmkcipcpaa.Hk Go.Proofs.Ytmhnhfmkcipcpaa.ListPure Go.Proofs.Ytmhnhfmkcipcpaa.Heap Go.Proofs.Ytmhnhfmkcipcpaa.Seen Go.Proofs.Ytmhnhfmkcipcpaa.LinePure Go.Proofs.YtmhnhfmkcipcpaaW.PrintWords Go.Proofs.YtmhnhfmkcipcpaaW.PrintLast Go.Proofs.YtmhnhfmkcipcpaaW.PrintMore
abbrev Told4 := Int × Bool × List Int × List Int
def seenK : Kd Told4 := Kd.pair (Kd.int .i64) (Kd.pair Kd.bool (Kd.pair (Kd.slice 3 (Kd.int .i64)) (Kd.slice 3 (Kd.int .i64))))
def told4 (l : List (List Int)) : List Told4 := l.map (fun k => (0, false, k, []))
theorem own_ge {N0 : Nat} {e : Nat} {w : World} {ok : Nat → Prop} {v : Value} {xs : List Int} (h : (Kd.int .i64).R e w N0 ok v xs) : ∀ k, v.ownBlock = some k → N0 ≤ k ∧ k < w.heap.size := by
  obtain ⟨_, inner, ho, _⟩ := h
  exact ho.lt
theorem told_keys {W : World} {base N0 : Nat} {K : Value} {ks : List Int} (hb : base ≤ N0) (hK : Ro W N0 K ks) : seenK.M W base (fun k => N0 ≤ k) (0, false, ks, []) [.int .i64 0, .bool false, K, .slice none 0 0] :=
  ⟨[_], [_, _, _], rfl, rfl, [_], [_, _], rfl, rfl, [_], [_], rfl, ⟨_, rfl, Kd.R_lower (Kd.R_reok rfl hK (fun k hk => (own_ge hK k hk).1)) hb⟩, ⟨_, rfl, Kd.R_nil ..⟩⟩
section
variable {base Rb Lb : Nat} {w w0 w1 w2 : World} {ns row : List Nat} {V : Nat → Int} {vn out v1 : Value} {b : Line} {rs rs' : List Told4} {Z : Nat → Prop}
theorem Ring.other (h : Ring base Rb Lb w ns V row vn) (hF : Fr Z w w1) (hZ : ∀ g, Z g → ∃ cs, w.heap[g]? = some (.cells cs 34 (0, 0))) : Ring base Rb Lb w1 ns V row vn := by
  have hZ' : ∀ e, 34 ≠ e → ∀ g, Z g → ∃ cs t, w.heap[g]? = some (.cells cs t (0, 0)) ∧ t ≠ e := fun e hne g hg => by
    obtain ⟨cs, h'⟩ := hZ g hg
    exact ⟨cs, _, h', hne⟩
  obtain ⟨P, X, hM, hK, hD, hS⟩ := h.lst
  exact ⟨Stack.blk_fr h.blk hF (hZ' _ (by decide)), ⟨P, X, ⟨Stack.blk_fr hM.lb hF (hZ' _ (by decide)), fun k hk => Stack.blk_fr (hM.nd k hk) hF (hZ' _ (by decide))⟩, hK, hD, hS⟩, Stack.row_fr (d := ptrK) rfl h.nod hF (hZ' _ (by decide)), h.ge⟩
theorem S_types (h : Kd.S seenK 34 w base (fun _ => True) out rs) (hF : Fr (Zr base w) w w1) : Kd.S seenK 34 w1 base (fun k => True ∧ ¬ w.heap.size ≤ k) out rs := by
  refine Kd.S_mono (Kd.S_step (Kd.S_bound h) (fun k hk hlt => hF.block k hlt (fun hz => ?_))) (fun k hk => ⟨trivial, by have := hk.2.2.1; omega⟩)
  obtain ⟨_, _, _, q, hq, cs, hc⟩ := hk
  have hq' : q ∈ [34, 3, 3] := hq
  have hq2 : q = 34 ∨ q = 3 := by simpa using hq'
  exact zr_not hc (by rcases hq2 with rfl | rfl <;> decide) (by rcases hq2 with rfl | rfl <;> decide) (by rcases hq2 with rfl | rfl <;> decide) (by rcases hq2 with rfl | rfl <;> decide) hz
theorem appended {ok : Nat → Prop} (h : Ring base Rb Lb w ns V row vn) (hS : Kd.S seenK 34 w base ok out rs) (hg : w.grownBy w1 out.ownBlock) : Ring base Rb Lb w1 ns V row vn ∧ Fr (fun k => some k = out.ownBlock) w w1 := by
  have hF : Fr (fun k => some k = out.ownBlock) w w1 := Fr.of_grown hg
  refine ⟨h.other hF (fun g e => ?_), hF⟩
  obtain ⟨inner, ho⟩ := Kd.R_own (Kd.S_R hS)
  exact own_typed ho g e.symm
end
/-- What holds between the steps of a script that began at w. -/
structure Lr (w : World) (Rb Lb : Nat) (l : List St) (i : Nat) (b : Line) (ns : List Nat) (V : Nat → Int) (row : List Nat) (vn out : Value) (rs : List Told4) (wr : World) : Prop where
  ring : Ring w.heap.size Rb Lb wr ns V row vn
  rel : Rel b ns V row
  row : Kd.S seenK 34 wr w.heap.size (fun _ => True) out rs
  below : Below w.heap.size w wr
  may : MayAll b (l.drop i)
  told : rs ++ told4 (toldL b (l.drop i)) = told4 (toldL ([], []) l)
  len : ns.length ≤ i
  many : rs.length = i
set_option maxHeartbeats 16000000 in
set_option maxRecDepth 100000 in
theorem ListRun_any (A : Option Addr) (c : Nat) (l : List St) (w : World) (hS : Kd.C stK w A l.length l) (hM : MayAll ([], []) l) (hl : l.length ≤ 274877906944) :
    Calls Try.prog 15 #[.slice A l.length c] w fun e w' => ∃ v, e = .returned v ∧ Kd.S seenK 34 w' w.heap.size (fun _ => True) v (told4 (toldL ([], []) l)) ∧ Below w.heap.size w w' := by
  have HS := hid hS
  have HM := hid hM
  have HLL := hid hl
  clear hS hM
  go_enter Try.func15, Try.ntmps15
  go_wp2_with fail
  refine (new_any w).mono ?_
  rintro e w1 ⟨Lb, rfl, hL, hge, hB⟩
  have H1 := hid (And.intro hL (And.intro hge hB))
  clear hL hB hge
  go_upto_region 3 with fail
  have H2 : Hid (Lr w w1.heap.size Lb l 0 ([], []) [] (fun _ => 0) [] (.slice none 0 0) (.slice none 0 0) [] (w1.alloc (.cells #[.pointer (some ⟨Lb, 0, none⟩), .slice none 0 0] 70))) := by
    have hB2 : Below w1.heap.size w1 (w1.alloc (.cells #[.pointer (some ⟨Lb, 0, none⟩), .slice none 0 0] 70)) := (Below.refl _ _).alloc (Nat.le_refl _) _
    refine hid ⟨⟨Blk.new _ _ _, H1.out.1.below hB2, Kd.R_nil .., H1.out.2.2.size, H1.out.2.1, fun k hk => by simp at hk⟩, ⟨rfl, fun k n h => by simp at h, rfl, fun k hk => by simp at hk, List.nodup_nil⟩, Kd.S_nil .., below_at H1.out.2.2 hB2 H1.out.2.2.size, HM.out, rfl, Nat.le_refl _, rfl⟩
  generalize w1.alloc (.cells #[.pointer (some ⟨Lb, 0, none⟩), .slice none 0 0] 70) = W2 at H2 ⊢
  generalize w1.heap.size = Rb at H2 ⊢
  clear H1
  go_wp2_with fail
  go_loopg [4, 12] l.length (fun gk v4 v12 wr => ∃ (i : Nat) (b : Line) (ns : List Nat) (V : Nat → Int) (row : List Nat) (vn : Value) (rs : List Told4), v12 = .int .i64 i ∧ i ≤ l.length ∧ Hid (gk + i = l.length) ∧ Hid (Lr w Rb Lb l i b ns V row vn v4 rs wr))
  case atStart => exact ⟨0, _, _, _, _, _, _, rfl, Nat.zero_le _, Nat.add_zero _, H2⟩
  case round =>
    obtain ⟨i, b, ns, V, row, vn, rs, rfl, hi, HG, HI⟩ := hrel
    by_cases hin : i < l.length
    · obtain ⟨ad, rfl, x0, x1, x2, x3⟩ := at_st (Kd.C_below HS.out HI.out.below) i hin
      have HD : Hid (l.drop i = l[i] :: l.drop (i + 1)) := List.drop_eq_getElem_cons hin
      generalize l[i] = a at x0 x1 x2 x3 HD
      obtain ⟨o, d, key, val⟩ := a
      simp only at x0 x1 x2 x3
      have HIN := hid hin
      obtain ⟨k1, rfl⟩ : ∃ k1, gk = k1 + 1 := ⟨gk - 1, by have := HG.out; omega⟩
      clear hin
      go_upto_region 6 with fail
      clear x0 x1 x2 x3
      have HA : Hid (Blk (wr.alloc (.cells #[.int .i64 o, .int .i64 d, .int .i64 key, .int .i64 val] 27)) wr.heap.size #[.int .i64 o, .int .i64 d, .int .i64 key, .int .i64 val] 27 ∧ Below wr.heap.size wr (wr.alloc (.cells #[.int .i64 o, .int .i64 d, .int .i64 key, .int .i64 val] 27))) := hid ⟨Blk.new _ _ _, (Below.refl _ _).alloc (Nat.le_refl _) _⟩
      generalize wr.alloc (.cells #[.int .i64 o, .int .i64 d, .int .i64 key, .int .i64 val] 27) = W at HA ⊢
      have y0 : W.cell? ⟨wr.heap.size, 0, none⟩ = some (.int .i64 o) := HA.out.1.cell 0
      have y1 : W.cell? ⟨wr.heap.size, 1, none⟩ = some (.int .i64 d) := HA.out.1.cell 1
      have y2 : W.cell? ⟨wr.heap.size, 2, none⟩ = some (.int .i64 key) := HA.out.1.cell 2
      have y3 : W.cell? ⟨wr.heap.size, 3, none⟩ = some (.int .i64 val) := HA.out.1.cell 3
      have HM2 : Hid (May b (o, d, key, val) ∧ MayAll (stepL b (o, d, key, val)) (l.drop (i + 1))) := by
        have h_ := HI.out.may
        rw [HD.out] at h_
        exact hid h_
      have HT2 : Hid (rs ++ [(0, false, tellL b (o, d, key, val), [])] ++ told4 (toldL (stepL b (o, d, key, val)) (l.drop (i + 1))) = told4 (toldL ([], []) l)) := by
        have h_ := HI.out.told
        rw [HD.out] at h_
        rw [List.append_assoc]
        exact hid h_
      have HO : Hid ((∀ k_, u4.ownBlock = some k_ → k_ < W.heap.size) ∧ w.heap.size ≤ W.heap.size) := hid ⟨fun k_ hk => Nat.lt_of_lt_of_le (Kd.S_lt HI.out.row k_ hk) HA.out.2.size, Nat.le_trans HI.out.below.size HA.out.2.size⟩
      have HI2 : Hid (Below w.heap.size w W ∧ Ring w.heap.size Rb Lb W ns V row vn ∧ Rel b ns V row ∧ ns.length ≤ i ∧ rs.length = i ∧ Kd.S seenK 34 W w.heap.size (fun _ => True) u4 rs) := hid ⟨below_at HI.out.below HA.out.2 HI.out.below.size, HI.out.ring.below HA.out.2, HI.out.rel, HI.out.len, HI.out.many, Kd.S_below HI.out.row HA.out.2⟩
      generalize wr.heap.size = s at HA y0 y1 y2 y3 ⊢
      clear HI HA
      go_wp2_with fail
      refine (step_any o d key val HI2.out.2.1 HI2.out.2.2.1 HM2.out.1 HO.out.2 (by have h1_ := HI2.out.2.2.2.1; have h2_ := HLL.out; omega)).mono ?_
      rintro e W3 ⟨kv, vn', ns', V', row', rfl, g1, g2, g3, g4, g5⟩
      obtain ⟨ks, hks⟩ : ∃ ks, tellL b (o, d, key, val) = ks := ⟨_, rfl⟩
      rw [hks] at g3 HT2
      obtain ⟨AK, cK, rfl⟩ := Kd.R_slice g3
      obtain ⟨s1, hs1⟩ : ∃ s1, W.heap.size = s1 := ⟨_, rfl⟩
      have hSS := S_types HI2.out.2.2.2.2.2 g4
      rw [hs1] at g3 hSS HO
      have H3 : Hid (Ring w.heap.size Rb Lb W3 ns' V' row' vn' ∧ Rel (stepL b (o, d, key, val)) ns' V' row' ∧ Ro W3 s1 (.slice AK ks.length cK) ks ∧ Kd.S seenK 34 W3 w.heap.size (fun k => True ∧ ¬ s1 ≤ k) u4 rs ∧ w.heap.size ≤ s1 ∧ w.heap.size ≤ W3.heap.size ∧ Below w.heap.size w W3 ∧ ns'.length ≤ i + 1) := hid ⟨g1, g2, g3, hSS, HO.out.2, by have := g4.size; have := HO.out.2; omega, HI2.out.1.trans (g4.below (by have := HO.out.2; omega) (fun k hk => hk.1)), by have := HI2.out.2.2.2.1; omega⟩
      have HRL : Hid (rs.length = i) := hid HI2.out.2.2.2.2.1
      have HM3 := hid HM2.out.2
      clear g1 g2 g3 g4 g5 y0 y1 y2 y3 hks hs1 hSS HI2 HM2
      go_wp2_with ((with_reducible refine gate_builtin (b := .append) (xs := #[.tmp 16, .tmp 20]) rfl ?_); at_builtin; refine Kd.S_append seenK (w0 := W3) (W := W3) w.heap.size rfl (.tmp 16) (.tmp 20) 24 34 (.agg #[(.int .i64 0), (.bool false), (.slice none 0 0), (.slice none 0 0)]) 64 rfl undSeens infoSeen rfl (by decide) (by omega) u4 rs (0, false, ks, []) [.int .i64 0, .bool false, .slice AK ks.length cK, .slice none 0 0] (fun _ => True) (fun k_ => s1 ≤ k_) rfl rfl ?aM ?aP (fun _ _ => trivial) ?aO ?aB ?aS ?aL ?_; (case aM => exact told_keys H3.out.2.2.2.2.1 H3.out.2.2.1); (case aP => exact fun k_ hk => ⟨trivial, fun e_ => by have := HO.out.1 k_ e_.symm; omega⟩); (case aO => exact H3.out.2.2.2.1); (case aB => exact Below.refl _ _); (case aS => exact H3.out.2.2.2.2.2.1); (case aL => have h1_ := HRL.out; have h2_ := HIN.out; have h3_ := HLL.out; omega); intro v1 w4 ho _ hg hat; have H4 := hid (appended H3.out.1 H3.out.2.2.2.1 hg); have H5 := hid ho; clear ho hg hat)
      go_roundg k1
      case measure => omega
      case rel => exact ⟨i + 1, _, ns', V', row', vn', rs ++ [(0, false, ks, [])], rfl, HIN.out, by have := HG.out; show k1 + (i + 1) = l.length; omega, hid ⟨H4.out.1, H3.out.2.1, H5.out, H3.out.2.2.2.2.2.2.1.trans (H4.out.2.below H3.out.2.2.2.2.2.1 (fun k_ hk => Kd.R_base (Kd.S_R H3.out.2.2.2.1) k_ hk.symm)), HM3.out, HT2.out, H3.out.2.2.2.2.2.2.2, by rw [List.length_append, HRL.out]; rfl⟩⟩
    · have e : i = l.length := by omega
      subst e
      have HF : Hid (rs = told4 (toldL ([], []) l)) := by
        have h1 := HI.out.told
        rw [List.drop_length] at h1
        exact hid (by simpa [toldL, told4] using h1)
      go_wp2_with fail
      go_ret
      exact ⟨_, rfl, by rw [← HF.out]; exact HI.out.row, HI.out.below⟩
end Go.Proofs.Ytmhnhfmkcipcpaa.Lists

namespace Go.Proofs.Ytmhnhfmkcipcpaa.LineDo
open Go Go.RowKit Go.Deep Go.Proofs.Ytmhnhfmkcipcpaa.Hk Go.Proofs.Ytmhnhfmkcipcpaa.Heap Go.Proofs.Ytmhnhfmkcipcpaa.Stack Go.Proofs.Ytmhnhfmkcipcpaa.Seen Go.Proofs.Ytmhnhfmkcipcpaa.Lists Go.Proofs.Ytmhnhfmkcipcpaa.LnFn Go.Proofs.YtmhnhfmkcipcpaaW.PrintWords Go.Proofs.YtmhnhfmkcipcpaaW.PrintLast Go.Proofs.YtmhnhfmkcipcpaaW.PrintMore
abbrev NL : Array Value := #[.slice none 0 0, .slice none 0 0]
/-- What stands within a step. -/
structure Dn (s : Nat) (w0 W : World) (vp rp : Sl) (vals row : List Int) (kv : Value) (ks : List Int) : Prop where
  lv : Lies W vp vals
  lr : Lies W rp row
  x2 : Blk W s #[slV vp, slV rp] 61
  x4 : Blk W (s + 2) NL 61
  x5 : Blk W (s + 3) (F4k (.slice none 0 0)) 34
  x6 : Blk W (s + 4) (F4k kv) 34
  keys : Ro W s kv ks
  below : Below s w0 W
  lt : s + 5 ≤ W.heap.size
section
variable {s : Nat} {w0 W W1 : World} {vp rp vp' rp' : Sl} {vals row vals' row' ks ks' : List Int} {kv kv' : Value}
theorem Dn.later (h : Dn s w0 W vp rp vals row kv ks) (hB : Below W.heap.size W W1) : Dn s w0 W1 vp rp vals row kv ks :=
  ⟨h.lv.below hB, h.lr.below hB, h.x2.below hB h.x2.lt, h.x4.below hB h.x4.lt, h.x5.below hB h.x5.lt, h.x6.below hB h.x6.lt, Kd.R_below h.keys hB, below_at h.below hB (by have := h.lt; omega), Nat.le_trans h.lt hB.size⟩
theorem Dn.drewN (h : Dn s w0 W vp rp vals row kv ks) (n : Nat) : Dn s w0 (W.drewN n) vp rp vals row kv ks := h.later ⟨rfl, rfl, rfl, Nat.le_refl _, fun _ _ => rfl⟩
theorem line_ne {b i : Nat} {u : Value} {cs : Array Value} (hb : Blk W b cs 61) : Fr (· = b) W (W.setCell ⟨b, i, none⟩ u) ∧ ∀ e, 61 ≠ e → ∀ g, g = b → ∃ cs t, W.heap[g]? = some (.cells cs t (0, 0)) ∧ t ≠ e :=
  ⟨Fr.one, fun e hne g hg => by subst hg; exact ⟨_, _, hb, hne⟩⟩
/-- The values, or the row, stored. -/
theorem Dn.setV (h : Dn s w0 W vp rp vals row kv ks) (hV : Lies W vp' vals') : Dn s w0 (W.setCell ⟨s, 0, none⟩ (slV vp')) vp' rp vals' row kv ks := by
  obtain ⟨hF, hZ⟩ := line_ne (i := 0) (u := slV vp') h.x2
  exact ⟨hV.fr hF (hZ _ (by decide)), h.lr.fr hF (hZ _ (by decide)), h.x2.set 0 _, h.x4.other _ _ (by show s + 2 ≠ s; omega), h.x5.other _ _ (by show s + 3 ≠ s; omega), h.x6.other _ _ (by show s + 4 ≠ s; omega), row_fr (d := Kd.int .i64) rfl h.keys hF (hZ _ (by decide)), h.below.trans (hF.below (by have := h.lt; omega) (fun k hk => Nat.le_of_eq hk.symm)), Nat.le_trans h.lt hF.size⟩
theorem Dn.setR (h : Dn s w0 W vp rp vals row kv ks) (hR : Lies W rp' row') : Dn s w0 (W.setCell ⟨s, 1, none⟩ (slV rp')) vp rp' vals row' kv ks := by
  obtain ⟨hF, hZ⟩ := line_ne (i := 1) (u := slV rp') h.x2
  exact ⟨h.lv.fr hF (hZ _ (by decide)), hR.fr hF (hZ _ (by decide)), h.x2.set 1 _, h.x4.other _ _ (by show s + 2 ≠ s; omega), h.x5.other _ _ (by show s + 3 ≠ s; omega), h.x6.other _ _ (by show s + 4 ≠ s; omega), row_fr (d := Kd.int .i64) rfl h.keys hF (hZ _ (by decide)), h.below.trans (hF.below (by have := h.lt; omega) (fun k hk => Nat.le_of_eq hk.symm)), Nat.le_trans h.lt hF.size⟩
theorem Dn.both (h : Dn s w0 W vp rp vals row kv ks) (hV : Lies W vp' vals') (hR : Lies W rp' row') : Dn s w0 ((W.setCell ⟨s, 0, none⟩ (slV vp')).setCell ⟨s, 1, none⟩ (slV rp')) vp' rp' vals' row' kv ks := by
  obtain ⟨hF, hZ⟩ := line_ne (i := 0) (u := slV vp') h.x2
  exact (h.setV hV).setR (hR.fr hF (hZ _ (by decide)))
theorem Dn.told (h : Dn s w0 W vp rp vals row kv ks) (hK : Ro W s kv' ks') : Dn s w0 (W.setCell ⟨s + 4, 2, none⟩ kv') vp rp vals row kv' ks' := by
  have hF : Fr (· = s + 4) W (W.setCell ⟨s + 4, 2, none⟩ kv') := Fr.one
  have hZ : ∀ e, 34 ≠ e → ∀ g, g = s + 4 → ∃ cs t, W.heap[g]? = some (.cells cs t (0, 0)) ∧ t ≠ e := fun e hne g hg => by subst hg; exact ⟨_, _, h.x6, hne⟩
  exact ⟨h.lv.fr hF (hZ _ (by decide)), h.lr.fr hF (hZ _ (by decide)), h.x2.other _ _ (by show s ≠ s + 4; omega), h.x4.other _ _ (by show s + 2 ≠ s + 4; omega), h.x5.other _ _ (by show s + 3 ≠ s + 4; omega), h.x6.set 2 _, row_fr (d := Kd.int .i64) rfl hK hF (hZ _ (by decide)), h.below.trans (hF.below (by have := h.lt; omega) (fun k hk => by omega)), Nat.le_trans h.lt hF.size⟩
/-- The results' own cells are set. -/
theorem Dn.fin (h : Dn s w0 W vp rp vals row kv ks) (hF : Fr (fun k => k = s + 2 ∨ k = s + 3) W W1) : Lies W1 vp vals ∧ Lies W1 rp row ∧ Ro W1 s kv ks ∧ Below s w0 W1 := by
  have hZ : ∀ e, 61 ≠ e → 34 ≠ e → ∀ g, g = s + 2 ∨ g = s + 3 → ∃ cs t, W.heap[g]? = some (.cells cs t (0, 0)) ∧ t ≠ e := fun e h1 h2 g hg => by
    rcases hg with rfl | rfl
    · exact ⟨_, _, h.x4, h1⟩
    · exact ⟨_, _, h.x5, h2⟩
  exact ⟨h.lv.fr hF (hZ _ (by decide) (by decide)), h.lr.fr hF (hZ _ (by decide) (by decide)), row_fr (d := Kd.int .i64) rfl h.keys hF (hZ _ (by decide) (by decide)), h.below.trans (hF.below (by have := h.lt; omega) (fun k hk => by omega))⟩
theorem Dn.start (st : Array Value) (hV : Lies w0 vp vals) (hR : Lies w0 rp row) :
    Dn w0.heap.size w0 (((((w0.alloc (.cells #[slV vp, slV rp] 61)).alloc (.cells st 27)).alloc (.cells NL 61)).alloc (.cells (F4k (.slice none 0 0)) 34)).alloc (.cells (F4k (.slice none 0 0)) 34)) vp rp vals row (.slice none 0 0) [] := by
  have h2 := Blk.new w0 #[slV vp, slV rp] 61
  have h4 := Blk.new ((w0.alloc (.cells #[slV vp, slV rp] 61)).alloc (.cells st 27)) NL 61
  have h5 := Blk.new (((w0.alloc (.cells #[slV vp, slV rp] 61)).alloc (.cells st 27)).alloc (.cells NL 61)) (F4k (.slice none 0 0)) 34
  have h6 := Blk.new ((((w0.alloc (.cells #[slV vp, slV rp] 61)).alloc (.cells st 27)).alloc (.cells NL 61)).alloc (.cells (F4k (.slice none 0 0)) 34)) (F4k (.slice none 0 0)) 34
  simp only [Hk.alloc_size] at h4 h5 h6
  have hB : Below w0.heap.size w0 (((((w0.alloc (.cells #[slV vp, slV rp] 61)).alloc (.cells st 27)).alloc (.cells NL 61)).alloc (.cells (F4k (.slice none 0 0)) 34)).alloc (.cells (F4k (.slice none 0 0)) 34)) :=
    (((((Below.refl _ _).alloc (Nat.le_refl _) _).alloc (by simp) _).alloc (by simp; omega) _).alloc (by simp; omega) _).alloc (by simp; omega) _
  exact ⟨hV.below hB, hR.below hB, (((h2.alloc _).alloc _).alloc _).alloc _, (h4.alloc _).alloc _, h5.alloc _, h6, Kd.R_nil .., hB, by simp⟩
end
end Go.Proofs.Ytmhnhfmkcipcpaa.LineDo

namespace Go.Proofs.Ytmhnhfmkcipcpaa.Stack
open Go Go.RowKit Go.Deep Go.Proofs.Ytmhnhfmkcipcpaa.Hk Go.Proofs.Ytmhnhfmkcipcpaa.HeapPure Go.Proofs.Ytmhnhfmkcipcpaa.Heap Go.Proofs.Ytmhnhfmkcipcpaa.StackPure Go.Proofs.Ytmhnhfmkcipcpaa.Seen Go.Proofs.YtmhnhfmkcipcpaaW.PrintWords Go.Proofs.YtmhnhfmkcipcpaaW.PrintLast Go.Proofs.YtmhnhfmkcipcpaaW.PrintMore
theorem at_st2 {w : World} {A : Option Addr} {n : Nat} {xs : List St} (h : Kd.C stK w A n xs) (i : Nat) (hi : i < xs.length) : ∃ ad, A = some ad ∧ ∀ W, Below w.heap.size w W → W.cell? (ad.add (i * 4)) = some (.int .i64 xs[i].1) ∧
    W.cell? ⟨(ad.add (i * 4)).block, (ad.add (i * 4)).off + 1, none⟩ = some (.int .i64 xs[i].2.1) ∧ W.cell? ⟨(ad.add (i * 4)).block, (ad.add (i * 4)).off + 2, none⟩ = some (.int .i64 xs[i].2.2.1) ∧ W.cell? ⟨(ad.add (i * 4)).block, (ad.add (i * 4)).off + 3, none⟩ = some (.int .i64 xs[i].2.2.2) := by
  obtain ⟨ad, e, _⟩ := at_st h i hi
  refine ⟨ad, e, fun W hB => ?_⟩
  obtain ⟨ad', e', h'⟩ := at_st (Kd.C_below h hB) i hi
  rw [e] at e'
  injection e' with e'
  subst e'
  exact h'
theorem ro_lit {W : World} {base : Nat} (h : base ≤ W.heap.size) : Ro (W.alloc (.cells #[] 3)) base (.slice (some ⟨W.heap.size, 0, none⟩) 0 0) [] := by
  refine ⟨fun _ _ => trivial, [], ?_, Reps.none _ _⟩
  have h2 := World.ownsRow_lit (base := base) (e := 3) (size := 1) W #[] 0 h (by simp [maxLen]) (by simp)
  show (W.alloc (.cells #[] 3)).ownsRow base 3 1 _ 0 []
  simpa using h2
end Go.Proofs.Ytmhnhfmkcipcpaa.Stack

namespace Go.Proofs.Ytmhnhfmkcipcpaa.LineDo
open Go Go.RowKit Go.Deep Go.Proofs.Ytmhnhfmkcipcpaa.Hk Go.Proofs.Ytmhnhfmkcipcpaa.Heap Go.Proofs.Ytmhnhfmkcipcpaa.Stack Go.Proofs.Ytmhnhfmkcipcpaa.Seen Go.Proofs.Ytmhnhfmkcipcpaa.Lists Go.Proofs.Ytmhnhfmkcipcpaa.LnFn Go.Proofs.YtmhnhfmkcipcpaaW.PrintWords Go.Proofs.YtmhnhfmkcipcpaaW.PrintLast Go.Proofs.YtmhnhfmkcipcpaaW.PrintMore
theorem reps_int {w : World} {base : Nat} {p : Int} {ok : Nat → Prop} : Reps ((Kd.int .i64).M w base ok) (Kd.int .i64).sz [p] [.int .i64 p] := by
  refine ⟨rfl, fun j q hj => ?_⟩
  match j, hj with
  | 0, hj =>
    simp only [List.getElem?_cons_zero, Option.some.injEq] at hj
    subst hj
    rfl
set_option maxHeartbeats 16000000 in
set_option maxRecDepth 100000 in
theorem back_any (s : Nat) (w : World) (vv : Value) (RA : Option Addr) (RC : Nat) (row : List Int) (n : Int) (hb : Blk w s #[vv, .slice RA row.length RC] 61) (hR : Lies w (RA, row.length, RC) row) (hl : row.length ≤ 1099511627776) :
    Calls Try.prog 68 #[.int .i64 n, .pointer (some ⟨s, 0, none⟩)] w fun e w' => ∃ A c, e = .returned (.slice A (row.length + 1) c) ∧ Ro w' w.heap.size (.slice A (row.length + 1) c) (row ++ [n]) ∧ Below w.heap.size w w' := by
  have HK := hid hb
  have HR := hid hR.cells
  have HL := hid hl
  have c1 : w.cell? ⟨s, 1, none⟩ = some (.slice RA row.length RC) := hb.cell 1
  clear hb hR hl
  go_enter Try.func68, Try.ntmps68
  go_wp2_with (first | ((with_reducible refine gate_dst (N := 4) rfl ?_); refine Kd.R_lit (Kd.int .i64) (w0 := w) w.heap.size 3 ?hg (N := 4) ?hd (xs := ([] : List Int)) (inner := []) (ok := fun _ => True) (okp := fun _ => True) ?hr ?hp (fun _ hk => hk) trivial (Below.refl w.heap.size w) (Below.refl w.heap.size w).size (by simp) ?_; (case hd => rfl); (case hg => rfl); (case hr => first | (go_simp; done) | (go_simp; rfl)); (case hp => exact (Reps.none _ _)); intro v4 w2 ho hb hg_ hnew_; obtain ⟨A_, c_, rfl⟩ := Kd.R_slice ho; have HE := hid ho; have HB := hid hb; have c2 : w2.cell? ⟨s, 1, none⟩ = some (.slice RA row.length RC) := (HK.out.below hb HK.out.lt).cell 1; clear hg_ hnew_ ho hb) | ((with_reducible refine gate_builtin (b := .append) (xs := #[.tmp 4, .tmp 6]) rfl ?_); at_builtin; refine Kd.R_append_rows (Kd.int .i64) (w0 := w) w.heap.size rfl (.tmp 4) (.tmp 6) 30 3 (.int .i64 0) 8 rfl Try.underlying30 Heap.info3 rfl (by decide) (by omega) _ ([] : List Int) row _ _ _ (fun _ => True) (fun _ => False) rfl rfl ?aO ?aR (fun _ _ h => h) (fun _ h => h.elim) ?aF ?aB ?aS ?aL ?_; (case aR => exact (Kd.C_below HR.out HB.out)); (case aB => exact HB.out); (case aF => exact (fun _ _ => trivial)); (case aO => exact HE.out); (case aS => exact HB.out.size); (case aL => have h_ := HL.out; (first | simp only [List.length_nil] | simp only [List.length_singleton]); omega); intro v7 w3 ho hb hg hat; obtain ⟨A7, c7, rfl⟩ := Kd.R_slice ho; have HE2 := hid ho; have HB2 := hid hb; clear HE HB; clear ho hb hg hat) | ((with_reducible refine gate_builtin (b := .append) (xs := #[.tmp 7, .tmp 9]) rfl ?_); at_builtin; refine Kd.R_append (W := w3) (Kd.int .i64) (w0 := w) w.heap.size rfl (.tmp 7) (.tmp 9) 30 3 (.int .i64 0) 8 rfl Try.underlying30 Heap.info3 rfl (by decide) (by omega) (.slice A7 ([] ++ row).length c7) ([] ++ row) n [.int .i64 n] (fun _ => True) (fun _ => False) rfl rfl ?aP (fun _ hk => hk.elim) (fun _ _ => trivial) ?aO ?aB ?aS ?aL ?_; (case aP => exact rfl); (case aO => exact HE2.out); (case aB => exact HB2.out); (case aS => exact HB2.out.size); (case aL => have h_ := HL.out; simp only [List.nil_append]; omega); intro v10 w4 ho hb hg hat; obtain ⟨A10, c10, rfl⟩ := Kd.R_slice ho; have HE3 := hid ho; have HB3 := hid hb; clear ho hb hg hat))
  go_ret
  have hl_ : ([] ++ row ++ [n]).length = row.length + 1 := by simp
  have h1 := HE3.out
  rw [hl_] at h1
  exact ⟨_, _, rfl, h1, HB3.out⟩
set_option maxHeartbeats 16000000 in
set_option maxRecDepth 100000 in
theorem front_any (s : Nat) (w : World) (vv : Value) (RA : Option Addr) (RC : Nat) (row : List Int) (n : Int) (hb : Blk w s #[vv, .slice RA row.length RC] 61) (hR : Lies w (RA, row.length, RC) row) (hl : row.length ≤ 1099511627776) :
    Calls Try.prog 69 #[.int .i64 n, .pointer (some ⟨s, 0, none⟩)] w fun e w' => ∃ A c, e = .returned (.slice A (row.length + 1) c) ∧ Ro w' w.heap.size (.slice A (row.length + 1) c) (n :: row) ∧ Below w.heap.size w w' := by
  have HK := hid hb
  have HR := hid hR.cells
  have HL := hid hl
  have c1 : w.cell? ⟨s, 1, none⟩ = some (.slice RA row.length RC) := hb.cell 1
  clear hb hR hl
  go_enter Try.func69, Try.ntmps69
  go_wp2_with (first | ((with_reducible refine gate_dst (N := 5) rfl ?_); refine Kd.R_lit (Kd.int .i64) (w0 := w) w.heap.size 3 ?hg (N := 5) ?hd (xs := [n]) (inner := [.int .i64 n]) (ok := fun _ => True) (okp := fun _ => True) ?hr ?hp (fun _ hk => hk) trivial (Below.refl w.heap.size w) (Below.refl w.heap.size w).size (by simp) ?_; (case hd => rfl); (case hg => rfl); (case hr => first | (go_simp; done) | (go_simp; rfl)); (case hp => exact reps_int); intro v5 w2 ho hb hg_ hnew_; obtain ⟨A_, c_, rfl⟩ := Kd.R_slice ho; have HE := hid ho; have HB := hid hb; have c2 : w2.cell? ⟨s, 1, none⟩ = some (.slice RA row.length RC) := (HK.out.below hb HK.out.lt).cell 1; clear hg_ hnew_ ho hb) | ((with_reducible refine gate_builtin (b := .append) (xs := #[.tmp 5, .tmp 7]) rfl ?_); at_builtin; refine Kd.R_append_rows (Kd.int .i64) (w0 := w) w.heap.size rfl (.tmp 5) (.tmp 7) 30 3 (.int .i64 0) 8 rfl Try.underlying30 Heap.info3 rfl (by decide) (by omega) _ [n] row _ _ _ (fun _ => True) (fun _ => False) rfl rfl ?aO ?aR (fun _ _ h => h) (fun _ h => h.elim) ?aF ?aB ?aS ?aL ?_; (case aR => exact (Kd.C_below HR.out HB.out)); (case aB => exact HB.out); (case aF => exact (fun _ _ => trivial)); (case aO => exact HE.out); (case aS => exact HB.out.size); (case aL => have h_ := HL.out; (first | simp only [List.length_nil] | simp only [List.length_singleton]); omega); intro v8 w3 ho hb hg hat; obtain ⟨A7, c7, rfl⟩ := Kd.R_slice ho; have HE2 := hid ho; have HB2 := hid hb; clear HE HB; clear ho hb hg hat))
  go_ret
  have hl_ : ([n] ++ row).length = row.length + 1 := by simp
  have h1 := HE2.out
  rw [hl_] at h1
  exact ⟨_, _, rfl, h1, HB2.out⟩
theorem fin_fr (W : World) {s : Nat} (u0 u1 v0 v1 v2 v3 : Value) : Fr (fun k => k = s + 2 ∨ k = s + 3) W (((((((W.setCell ⟨s + 2, 0, none⟩ u0).setCell ⟨s + 2, 1, none⟩ u1).setCell ⟨s + 3, 0, none⟩ v0).setCell ⟨s + 3, 1, none⟩ v1).setCell ⟨s + 3, 2, none⟩ v2).setCell ⟨s + 3, 3, none⟩ v3).drew) :=
  (Fr.setCell (Fr.setCell (Fr.setCell (Fr.setCell (Fr.setCell (Fr.setCell (Fr.refl _ _) (p := ⟨s + 2, 0, none⟩) (fun _ => .inl rfl) _) (p := ⟨s + 2, 1, none⟩) (fun _ => .inl rfl) _) (p := ⟨s + 3, 0, none⟩) (fun _ => .inr rfl) _) (p := ⟨s + 3, 1, none⟩) (fun _ => .inr rfl) _) (p := ⟨s + 3, 2, none⟩) (fun _ => .inr rfl) _) (p := ⟨s + 3, 3, none⟩) (fun _ => .inr rfl) _).drew
end Go.Proofs.Ytmhnhfmkcipcpaa.LineDo

namespace Go.Proofs.Ytmhnhfmkcipcpaa.LineDo
open Go Go.RowKit Go.Deep Go.Proofs.Ytmhnhfmkcipcpaa.Hk Go.Proofs.Ytmhnhfmkcipcpaa.Heap Go.Proofs.Ytmhnhfmkcipcpaa.Stack Go.Proofs.Ytmhnhfmkcipcpaa.Seen Go.Proofs.Ytmhnhfmkcipcpaa.Lists Go.Proofs.Ytmhnhfmkcipcpaa.LnFn Go.Proofs.YtmhnhfmkcipcpaaW.PrintWords Go.Proofs.YtmhnhfmkcipcpaaW.PrintLast Go.Proofs.YtmhnhfmkcipcpaaW.PrintMore
set_option maxHeartbeats 16000000 in
set_option maxRecDepth 100000 in
theorem doElse (w : World) (VA RA : Option Addr) (VC RC : Nat) (vals row : List Int) (o d key val : Int) (at0 : Int) (k0 : Nat) (hV : Lies w (VA, vals.length, VC) vals) (hR : Lies w (RA, row.length, RC) row) (hl : vals.length ≤ 1099511627776 ∧ row.length ≤ 1099511627776) (hat : spec_lineAt.f k0 row val = some at0) (h0 : ¬ d = 0) (h1 : ¬ d = 1) (h2 : ¬ d = 2) (h3 : ¬ d = 3) (h4 : ¬ d = 4) (h5 : ¬ d = 5) (h6 : ¬ d = 6) (h7 : ¬ d = 7) (h8 : ¬ d = 8) (h9 : ¬ d = 9) :
    Calls Try.prog 39 #[.agg #[.slice VA vals.length VC, .slice RA row.length RC], .agg #[.int .i64 o, .int .i64 d, .int .i64 key, .int .i64 val]] w fun e w' => ∃ vp rp kv, e = .returned (.tuple #[.agg #[slV vp, slV rp], .agg #[.int .i64 0, .bool false, kv, .slice none 0 0]]) ∧
      Lies w' vp (vals) ∧ Lies w' rp (row) ∧ Ro w' w.heap.size kv ([]) ∧ Below w.heap.size w w' := by
  have H0 : Hid (Dn w.heap.size w (((((w.alloc (.cells #[.slice VA vals.length VC, .slice RA row.length RC] 61)).alloc (.cells #[.int .i64 o, .int .i64 d, .int .i64 key, .int .i64 val] 27)).alloc (.cells NL 61)).alloc (.cells (F4k (.slice none 0 0)) 34)).alloc (.cells (F4k (.slice none 0 0)) 34)) (VA, vals.length, VC) (RA, row.length, RC) vals row (.slice none 0 0) []) := hid (Dn.start #[.int .i64 o, .int .i64 d, .int .i64 key, .int .i64 val] hV hR)
  have HS0 : Hid (Blk (((((w.alloc (.cells #[.slice VA vals.length VC, .slice RA row.length RC] 61)).alloc (.cells #[.int .i64 o, .int .i64 d, .int .i64 key, .int .i64 val] 27)).alloc (.cells NL 61)).alloc (.cells (F4k (.slice none 0 0)) 34)).alloc (.cells (F4k (.slice none 0 0)) 34)) (w.heap.size + 1) #[.int .i64 o, .int .i64 d, .int .i64 key, .int .i64 val] 27) := by
    have h_ := Blk.new (w.alloc (.cells #[.slice VA vals.length VC, .slice RA row.length RC] 61)) #[.int .i64 o, .int .i64 d, .int .i64 key, .int .i64 val] 27
    rw [Hk.alloc_size] at h_
    exact hid (((h_.alloc _).alloc _).alloc _)
  have HL := hid hl
  have HAT := hid hat
  clear hV hR hl hat
  go_enter Try.func39, Try.ntmps39
  go_upto_region 2 with fail
  change Code.wp _ _ _ _ (((((w.alloc (.cells #[.slice VA vals.length VC, .slice RA row.length RC] 61)).alloc (.cells #[.int .i64 o, .int .i64 d, .int .i64 key, .int .i64 val] 27)).alloc (.cells NL 61)).alloc (.cells (F4k (.slice none 0 0)) 34)).alloc (.cells (F4k (.slice none 0 0)) 34))
  generalize (((((w.alloc (.cells #[.slice VA vals.length VC, .slice RA row.length RC] 61)).alloc (.cells #[.int .i64 o, .int .i64 d, .int .i64 key, .int .i64 val] 27)).alloc (.cells NL 61)).alloc (.cells (F4k (.slice none 0 0)) 34)).alloc (.cells (F4k (.slice none 0 0)) 34)) = W0 at H0 HS0 ⊢
  obtain ⟨s, hs⟩ : ∃ s, w.heap.size = s := ⟨_, rfl⟩
  rw [hs] at H0 HS0 ⊢
  have c1 : W0.cell? ⟨s, 1, none⟩ = some (.slice RA row.length RC) := H0.out.x2.cell 1
  have k3 : W0.cell? ⟨s + 1, 3, none⟩ = some (.int .i64 val) := HS0.out.cell 3
  go_upto_region 3 with ((go_at_call 67; refine (spec_lineAt.calls k0 RA RC row val at0 W0 H0.out.lr.cells H0.out.lr.cap HAT.out).mono ?_; rintro e w' ⟨rfl, ⟨n, rfl⟩⟩))
  have H1 := hid (H0.out.drewN n)
  have HS1 : Hid (Blk (W0.drewN n) (s + 1) #[.int .i64 o, .int .i64 d, .int .i64 key, .int .i64 val] 27) := hid (HS0.out.drewN n)
  clear H0 HS0 c1 k3
  generalize W0.drewN n = W at H1 HS1 ⊢
  have k1 : W.cell? ⟨s + 1, 1, none⟩ = some (.int .i64 d) := HS1.out.cell 1
  have hz0 : (d == 0) = false := beq_eq_false_iff_ne.2 h0
  have hz1 : (d == 1) = false := beq_eq_false_iff_ne.2 h1
  have hz2 : (d == 2) = false := beq_eq_false_iff_ne.2 h2
  have hz3 : (d == 3) = false := beq_eq_false_iff_ne.2 h3
  have hz4 : (d == 4) = false := beq_eq_false_iff_ne.2 h4
  have hz5 : (d == 5) = false := beq_eq_false_iff_ne.2 h5
  have hz6 : (d == 6) = false := beq_eq_false_iff_ne.2 h6
  have hz7 : (d == 7) = false := beq_eq_false_iff_ne.2 h7
  have hz8 : (d == 8) = false := beq_eq_false_iff_ne.2 h8
  have hz9 : (d == 9) = false := beq_eq_false_iff_ne.2 h9
  have a0 : W.cell? ⟨s, 0, none⟩ = some (.slice VA vals.length VC) := H1.out.x2.cell 0
  have a1 : W.cell? ⟨s, 1, none⟩ = some (.slice RA row.length RC) := H1.out.x2.cell 1
  have b0 : W.cell? ⟨s + 1 + 1 + 1 + 1, 0, none⟩ = some (.int .i64 0) := H1.out.x6.cell 0
  have b1 : W.cell? ⟨s + 1 + 1 + 1 + 1, 1, none⟩ = some (.bool false) := H1.out.x6.cell 1
  have b2 : W.cell? ⟨s + 1 + 1 + 1 + 1, 2, none⟩ = some (.slice none 0 0) := H1.out.x6.cell 2
  have b3 : W.cell? ⟨s + 1 + 1 + 1 + 1, 3, none⟩ = some (.slice none 0 0) := H1.out.x6.cell 3
  have d0 : W.cell? ⟨s + 1 + 1, 0, none⟩ = some (.slice none 0 0) := H1.out.x4.cell 0
  have e0 : W.frozen? ⟨s + 1 + 1, 0, none⟩ = false := H1.out.x4.free 0
  have d1 : W.cell? ⟨s + 1 + 1, 1, none⟩ = some (.slice none 0 0) := H1.out.x4.cell 1
  have e1 : W.frozen? ⟨s + 1 + 1, 1, none⟩ = false := H1.out.x4.free 1
  have f0 : W.cell? ⟨s + 1 + 1 + 1, 0, none⟩ = some (.int .i64 0) := H1.out.x5.cell 0
  have g0 : W.frozen? ⟨s + 1 + 1 + 1, 0, none⟩ = false := H1.out.x5.free 0
  have f1 : W.cell? ⟨s + 1 + 1 + 1, 1, none⟩ = some (.bool false) := H1.out.x5.cell 1
  have g1 : W.frozen? ⟨s + 1 + 1 + 1, 1, none⟩ = false := H1.out.x5.free 1
  have f2 : W.cell? ⟨s + 1 + 1 + 1, 2, none⟩ = some (.slice none 0 0) := H1.out.x5.cell 2
  have g2 : W.frozen? ⟨s + 1 + 1 + 1, 2, none⟩ = false := H1.out.x5.free 2
  have f3 : W.cell? ⟨s + 1 + 1 + 1, 3, none⟩ = some (.slice none 0 0) := H1.out.x5.cell 3
  have g3 : W.frozen? ⟨s + 1 + 1 + 1, 3, none⟩ = false := H1.out.x5.free 3
  go_upto_region 26 with fail
  go_region
  go_wp2_with fail
  refine bodyPost_ret (v := .tuple #[.agg #[.slice VA vals.length VC, .slice RA row.length RC], .agg #[.int .i64 0, .bool false, .slice none 0 0, .slice none 0 0]]) (by simp [results, Try.results39, go_sem, d0, d1, f0, f1, f2, f3]) rfl ?_
  obtain ⟨r1, r2, r3, r4⟩ := H1.out.fin (W1 := _) (fin_fr _ (.slice VA vals.length VC) (.slice RA row.length RC) (.int .i64 0) (.bool false) (.slice none 0 0) (.slice none 0 0))
  exact ⟨(VA, vals.length, VC), (RA, row.length, RC), .slice none 0 0, rfl, r1, r2, by rw [hs]; exact r3, by rw [hs]; exact r4⟩
set_option maxHeartbeats 16000000 in
set_option maxRecDepth 100000 in
theorem do3 (w : World) (VA RA : Option Addr) (VC RC : Nat) (vals row : List Int) (o key val : Int) (at0 : Int) (k0 : Nat) (hV : Lies w (VA, vals.length, VC) vals) (hR : Lies w (RA, row.length, RC) row) (hl : vals.length ≤ 1099511627776 ∧ row.length ≤ 1099511627776) (hat : spec_lineAt.f k0 row val = some at0) :
    Calls Try.prog 39 #[.agg #[.slice VA vals.length VC, .slice RA row.length RC], .agg #[.int .i64 o, .int .i64 3, .int .i64 key, .int .i64 val]] w fun e w' => ∃ vp rp kv, e = .returned (.tuple #[.agg #[slV vp, slV rp], .agg #[.int .i64 0, .bool false, kv, .slice none 0 0]]) ∧
      Lies w' vp (vals) ∧ Lies w' rp (row ++ [val]) ∧ Ro w' w.heap.size kv ([]) ∧ Below w.heap.size w w' := by
  have H0 : Hid (Dn w.heap.size w (((((w.alloc (.cells #[.slice VA vals.length VC, .slice RA row.length RC] 61)).alloc (.cells #[.int .i64 o, .int .i64 3, .int .i64 key, .int .i64 val] 27)).alloc (.cells NL 61)).alloc (.cells (F4k (.slice none 0 0)) 34)).alloc (.cells (F4k (.slice none 0 0)) 34)) (VA, vals.length, VC) (RA, row.length, RC) vals row (.slice none 0 0) []) := hid (Dn.start #[.int .i64 o, .int .i64 3, .int .i64 key, .int .i64 val] hV hR)
  have HS0 : Hid (Blk (((((w.alloc (.cells #[.slice VA vals.length VC, .slice RA row.length RC] 61)).alloc (.cells #[.int .i64 o, .int .i64 3, .int .i64 key, .int .i64 val] 27)).alloc (.cells NL 61)).alloc (.cells (F4k (.slice none 0 0)) 34)).alloc (.cells (F4k (.slice none 0 0)) 34)) (w.heap.size + 1) #[.int .i64 o, .int .i64 3, .int .i64 key, .int .i64 val] 27) := by
    have h_ := Blk.new (w.alloc (.cells #[.slice VA vals.length VC, .slice RA row.length RC] 61)) #[.int .i64 o, .int .i64 3, .int .i64 key, .int .i64 val] 27
    rw [Hk.alloc_size] at h_
    exact hid (((h_.alloc _).alloc _).alloc _)
  have HL := hid hl
  have HAT := hid hat
  clear hV hR hl hat
  go_enter Try.func39, Try.ntmps39
  go_upto_region 2 with fail
  change Code.wp _ _ _ _ (((((w.alloc (.cells #[.slice VA vals.length VC, .slice RA row.length RC] 61)).alloc (.cells #[.int .i64 o, .int .i64 3, .int .i64 key, .int .i64 val] 27)).alloc (.cells NL 61)).alloc (.cells (F4k (.slice none 0 0)) 34)).alloc (.cells (F4k (.slice none 0 0)) 34))
  generalize (((((w.alloc (.cells #[.slice VA vals.length VC, .slice RA row.length RC] 61)).alloc (.cells #[.int .i64 o, .int .i64 3, .int .i64 key, .int .i64 val] 27)).alloc (.cells NL 61)).alloc (.cells (F4k (.slice none 0 0)) 34)).alloc (.cells (F4k (.slice none 0 0)) 34)) = W0 at H0 HS0 ⊢
  obtain ⟨s, hs⟩ : ∃ s, w.heap.size = s := ⟨_, rfl⟩
  rw [hs] at H0 HS0 ⊢
  have c1 : W0.cell? ⟨s, 1, none⟩ = some (.slice RA row.length RC) := H0.out.x2.cell 1
  have k3 : W0.cell? ⟨s + 1, 3, none⟩ = some (.int .i64 val) := HS0.out.cell 3
  go_upto_region 3 with ((go_at_call 67; refine (spec_lineAt.calls k0 RA RC row val at0 W0 H0.out.lr.cells H0.out.lr.cap HAT.out).mono ?_; rintro e w' ⟨rfl, ⟨n, rfl⟩⟩))
  have H1 := hid (H0.out.drewN n)
  have HS1 : Hid (Blk (W0.drewN n) (s + 1) #[.int .i64 o, .int .i64 3, .int .i64 key, .int .i64 val] 27) := hid (HS0.out.drewN n)
  clear H0 HS0 c1 k3
  generalize W0.drewN n = W at H1 HS1 ⊢
  have k1 : W.cell? ⟨s + 1, 1, none⟩ = some (.int .i64 3) := HS1.out.cell 1
  have k3 : W.cell? ⟨s + 1, 3, none⟩ = some (.int .i64 val) := HS1.out.cell 3
  go_upto_region 13 with fail
  go_wp2_with fail
  refine (back_any s W _ RA RC row val H1.out.x2 H1.out.lr HL.out.2).mono ?_
  rintro e W2 ⟨A, c, rfl, hO, hB⟩
  have H2 := hid (H1.out.later hB)
  have y1 : W2.cell? ⟨s, 1, none⟩ = some (.slice RA row.length RC) := H2.out.x2.cell 1
  have y2 : W2.frozen? ⟨s, 1, none⟩ = false := H2.out.x2.free 1
  have HO : Hid (Lies W2 (A, row.length + 1, c) (row ++ [val])) := by
    have h_ := Lies.of hO
    exact hid h_
  have H3 := hid (H2.out.setR HO.out)
  clear hO hB H1 HS1 k1 k3 H2 HO
  go_upto_region 26 with fail
  clear y1 y2
  change Code.wp _ _ _ _ (W2.setCell ⟨s, 1, none⟩ (slV (A, row.length + 1, c)))
  generalize W2.setCell ⟨s, 1, none⟩ (slV (A, row.length + 1, c)) = W3 at H3 ⊢
  have a0 : W3.cell? ⟨s, 0, none⟩ = some (.slice VA vals.length VC) := H3.out.x2.cell 0
  have a1 : W3.cell? ⟨s, 1, none⟩ = some (.slice A (row.length + 1) c) := H3.out.x2.cell 1
  have b0 : W3.cell? ⟨s + 1 + 1 + 1 + 1, 0, none⟩ = some (.int .i64 0) := H3.out.x6.cell 0
  have b1 : W3.cell? ⟨s + 1 + 1 + 1 + 1, 1, none⟩ = some (.bool false) := H3.out.x6.cell 1
  have b2 : W3.cell? ⟨s + 1 + 1 + 1 + 1, 2, none⟩ = some (.slice none 0 0) := H3.out.x6.cell 2
  have b3 : W3.cell? ⟨s + 1 + 1 + 1 + 1, 3, none⟩ = some (.slice none 0 0) := H3.out.x6.cell 3
  have d0 : W3.cell? ⟨s + 1 + 1, 0, none⟩ = some (.slice none 0 0) := H3.out.x4.cell 0
  have e0 : W3.frozen? ⟨s + 1 + 1, 0, none⟩ = false := H3.out.x4.free 0
  have d1 : W3.cell? ⟨s + 1 + 1, 1, none⟩ = some (.slice none 0 0) := H3.out.x4.cell 1
  have e1 : W3.frozen? ⟨s + 1 + 1, 1, none⟩ = false := H3.out.x4.free 1
  have f0 : W3.cell? ⟨s + 1 + 1 + 1, 0, none⟩ = some (.int .i64 0) := H3.out.x5.cell 0
  have g0 : W3.frozen? ⟨s + 1 + 1 + 1, 0, none⟩ = false := H3.out.x5.free 0
  have f1 : W3.cell? ⟨s + 1 + 1 + 1, 1, none⟩ = some (.bool false) := H3.out.x5.cell 1
  have g1 : W3.frozen? ⟨s + 1 + 1 + 1, 1, none⟩ = false := H3.out.x5.free 1
  have f2 : W3.cell? ⟨s + 1 + 1 + 1, 2, none⟩ = some (.slice none 0 0) := H3.out.x5.cell 2
  have g2 : W3.frozen? ⟨s + 1 + 1 + 1, 2, none⟩ = false := H3.out.x5.free 2
  have f3 : W3.cell? ⟨s + 1 + 1 + 1, 3, none⟩ = some (.slice none 0 0) := H3.out.x5.cell 3
  have g3 : W3.frozen? ⟨s + 1 + 1 + 1, 3, none⟩ = false := H3.out.x5.free 3
  go_upto_region 26 with fail
  go_region
  go_wp2_with fail
  refine bodyPost_ret (v := .tuple #[.agg #[.slice VA vals.length VC, .slice A (row.length + 1) c], .agg #[.int .i64 0, .bool false, .slice none 0 0, .slice none 0 0]]) (by simp [results, Try.results39, go_sem, d0, d1, f0, f1, f2, f3]) rfl ?_
  obtain ⟨r1, r2, r3, r4⟩ := H3.out.fin (W1 := _) (fin_fr _ (.slice VA vals.length VC) (.slice A (row.length + 1) c) (.int .i64 0) (.bool false) (.slice none 0 0) (.slice none 0 0))
  exact ⟨(VA, vals.length, VC), (A, (row.length + 1), c), .slice none 0 0, rfl, r1, r2, by rw [hs]; exact r3, by rw [hs]; exact r4⟩
set_option maxHeartbeats 16000000 in
set_option maxRecDepth 100000 in
theorem do4 (w : World) (VA RA : Option Addr) (VC RC : Nat) (vals row : List Int) (o key val : Int) (at0 : Int) (k0 : Nat) (hV : Lies w (VA, vals.length, VC) vals) (hR : Lies w (RA, row.length, RC) row) (hl : vals.length ≤ 1099511627776 ∧ row.length ≤ 1099511627776) (hat : spec_lineAt.f k0 row val = some at0) :
    Calls Try.prog 39 #[.agg #[.slice VA vals.length VC, .slice RA row.length RC], .agg #[.int .i64 o, .int .i64 4, .int .i64 key, .int .i64 val]] w fun e w' => ∃ vp rp kv, e = .returned (.tuple #[.agg #[slV vp, slV rp], .agg #[.int .i64 0, .bool false, kv, .slice none 0 0]]) ∧
      Lies w' vp (vals) ∧ Lies w' rp (val :: row) ∧ Ro w' w.heap.size kv ([]) ∧ Below w.heap.size w w' := by
  have H0 : Hid (Dn w.heap.size w (((((w.alloc (.cells #[.slice VA vals.length VC, .slice RA row.length RC] 61)).alloc (.cells #[.int .i64 o, .int .i64 4, .int .i64 key, .int .i64 val] 27)).alloc (.cells NL 61)).alloc (.cells (F4k (.slice none 0 0)) 34)).alloc (.cells (F4k (.slice none 0 0)) 34)) (VA, vals.length, VC) (RA, row.length, RC) vals row (.slice none 0 0) []) := hid (Dn.start #[.int .i64 o, .int .i64 4, .int .i64 key, .int .i64 val] hV hR)
  have HS0 : Hid (Blk (((((w.alloc (.cells #[.slice VA vals.length VC, .slice RA row.length RC] 61)).alloc (.cells #[.int .i64 o, .int .i64 4, .int .i64 key, .int .i64 val] 27)).alloc (.cells NL 61)).alloc (.cells (F4k (.slice none 0 0)) 34)).alloc (.cells (F4k (.slice none 0 0)) 34)) (w.heap.size + 1) #[.int .i64 o, .int .i64 4, .int .i64 key, .int .i64 val] 27) := by
    have h_ := Blk.new (w.alloc (.cells #[.slice VA vals.length VC, .slice RA row.length RC] 61)) #[.int .i64 o, .int .i64 4, .int .i64 key, .int .i64 val] 27
    rw [Hk.alloc_size] at h_
    exact hid (((h_.alloc _).alloc _).alloc _)
  have HL := hid hl
  have HAT := hid hat
  clear hV hR hl hat
  go_enter Try.func39, Try.ntmps39
  go_upto_region 2 with fail
  change Code.wp _ _ _ _ (((((w.alloc (.cells #[.slice VA vals.length VC, .slice RA row.length RC] 61)).alloc (.cells #[.int .i64 o, .int .i64 4, .int .i64 key, .int .i64 val] 27)).alloc (.cells NL 61)).alloc (.cells (F4k (.slice none 0 0)) 34)).alloc (.cells (F4k (.slice none 0 0)) 34))
  generalize (((((w.alloc (.cells #[.slice VA vals.length VC, .slice RA row.length RC] 61)).alloc (.cells #[.int .i64 o, .int .i64 4, .int .i64 key, .int .i64 val] 27)).alloc (.cells NL 61)).alloc (.cells (F4k (.slice none 0 0)) 34)).alloc (.cells (F4k (.slice none 0 0)) 34)) = W0 at H0 HS0 ⊢
  obtain ⟨s, hs⟩ : ∃ s, w.heap.size = s := ⟨_, rfl⟩
  rw [hs] at H0 HS0 ⊢
  have c1 : W0.cell? ⟨s, 1, none⟩ = some (.slice RA row.length RC) := H0.out.x2.cell 1
  have k3 : W0.cell? ⟨s + 1, 3, none⟩ = some (.int .i64 val) := HS0.out.cell 3
  go_upto_region 3 with ((go_at_call 67; refine (spec_lineAt.calls k0 RA RC row val at0 W0 H0.out.lr.cells H0.out.lr.cap HAT.out).mono ?_; rintro e w' ⟨rfl, ⟨n, rfl⟩⟩))
  have H1 := hid (H0.out.drewN n)
  have HS1 : Hid (Blk (W0.drewN n) (s + 1) #[.int .i64 o, .int .i64 4, .int .i64 key, .int .i64 val] 27) := hid (HS0.out.drewN n)
  clear H0 HS0 c1 k3
  generalize W0.drewN n = W at H1 HS1 ⊢
  have k1 : W.cell? ⟨s + 1, 1, none⟩ = some (.int .i64 4) := HS1.out.cell 1
  have k3 : W.cell? ⟨s + 1, 3, none⟩ = some (.int .i64 val) := HS1.out.cell 3
  go_upto_region 15 with fail
  go_wp2_with fail
  refine (front_any s W _ RA RC row val H1.out.x2 H1.out.lr HL.out.2).mono ?_
  rintro e W2 ⟨A, c, rfl, hO, hB⟩
  have H2 := hid (H1.out.later hB)
  have y1 : W2.cell? ⟨s, 1, none⟩ = some (.slice RA row.length RC) := H2.out.x2.cell 1
  have y2 : W2.frozen? ⟨s, 1, none⟩ = false := H2.out.x2.free 1
  have HO : Hid (Lies W2 (A, row.length + 1, c) (val :: row)) := by
    have h_ := Lies.of hO
    exact hid h_
  have H3 := hid (H2.out.setR HO.out)
  clear hO hB H1 HS1 k1 k3 H2 HO
  go_upto_region 26 with fail
  clear y1 y2
  change Code.wp _ _ _ _ (W2.setCell ⟨s, 1, none⟩ (slV (A, row.length + 1, c)))
  generalize W2.setCell ⟨s, 1, none⟩ (slV (A, row.length + 1, c)) = W3 at H3 ⊢
  have a0 : W3.cell? ⟨s, 0, none⟩ = some (.slice VA vals.length VC) := H3.out.x2.cell 0
  have a1 : W3.cell? ⟨s, 1, none⟩ = some (.slice A (row.length + 1) c) := H3.out.x2.cell 1
  have b0 : W3.cell? ⟨s + 1 + 1 + 1 + 1, 0, none⟩ = some (.int .i64 0) := H3.out.x6.cell 0
  have b1 : W3.cell? ⟨s + 1 + 1 + 1 + 1, 1, none⟩ = some (.bool false) := H3.out.x6.cell 1
  have b2 : W3.cell? ⟨s + 1 + 1 + 1 + 1, 2, none⟩ = some (.slice none 0 0) := H3.out.x6.cell 2
  have b3 : W3.cell? ⟨s + 1 + 1 + 1 + 1, 3, none⟩ = some (.slice none 0 0) := H3.out.x6.cell 3
  have d0 : W3.cell? ⟨s + 1 + 1, 0, none⟩ = some (.slice none 0 0) := H3.out.x4.cell 0
  have e0 : W3.frozen? ⟨s + 1 + 1, 0, none⟩ = false := H3.out.x4.free 0
  have d1 : W3.cell? ⟨s + 1 + 1, 1, none⟩ = some (.slice none 0 0) := H3.out.x4.cell 1
  have e1 : W3.frozen? ⟨s + 1 + 1, 1, none⟩ = false := H3.out.x4.free 1
  have f0 : W3.cell? ⟨s + 1 + 1 + 1, 0, none⟩ = some (.int .i64 0) := H3.out.x5.cell 0
  have g0 : W3.frozen? ⟨s + 1 + 1 + 1, 0, none⟩ = false := H3.out.x5.free 0
  have f1 : W3.cell? ⟨s + 1 + 1 + 1, 1, none⟩ = some (.bool false) := H3.out.x5.cell 1
  have g1 : W3.frozen? ⟨s + 1 + 1 + 1, 1, none⟩ = false := H3.out.x5.free 1
  have f2 : W3.cell? ⟨s + 1 + 1 + 1, 2, none⟩ = some (.slice none 0 0) := H3.out.x5.cell 2
  have g2 : W3.frozen? ⟨s + 1 + 1 + 1, 2, none⟩ = false := H3.out.x5.free 2
  have f3 : W3.cell? ⟨s + 1 + 1 + 1, 3, none⟩ = some (.slice none 0 0) := H3.out.x5.cell 3
  have g3 : W3.frozen? ⟨s + 1 + 1 + 1, 3, none⟩ = false := H3.out.x5.free 3
  go_upto_region 26 with fail
  go_region
  go_wp2_with fail
  refine bodyPost_ret (v := .tuple #[.agg #[.slice VA vals.length VC, .slice A (row.length + 1) c], .agg #[.int .i64 0, .bool false, .slice none 0 0, .slice none 0 0]]) (by simp [results, Try.results39, go_sem, d0, d1, f0, f1, f2, f3]) rfl ?_
  obtain ⟨r1, r2, r3, r4⟩ := H3.out.fin (W1 := _) (fin_fr _ (.slice VA vals.length VC) (.slice A (row.length + 1) c) (.int .i64 0) (.bool false) (.slice none 0 0) (.slice none 0 0))
  exact ⟨(VA, vals.length, VC), (A, (row.length + 1), c), .slice none 0 0, rfl, r1, r2, by rw [hs]; exact r3, by rw [hs]; exact r4⟩
end Go.Proofs.Ytmhnhfmkcipcpaa.LineDo

namespace Go.Proofs.Ytmhnhfmkcipcpaa.LineDo
open Go Go.RowKit Go.Deep Go.Proofs.Ytmhnhfmkcipcpaa.Hk Go.Proofs.Ytmhnhfmkcipcpaa.Heap Go.Proofs.Ytmhnhfmkcipcpaa.Stack Go.Proofs.Ytmhnhfmkcipcpaa.Seen Go.Proofs.Ytmhnhfmkcipcpaa.Lists Go.Proofs.Ytmhnhfmkcipcpaa.LnFn Go.Proofs.YtmhnhfmkcipcpaaW.PrintWords Go.Proofs.YtmhnhfmkcipcpaaW.PrintLast Go.Proofs.YtmhnhfmkcipcpaaW.PrintMore
def ld7.T : Bool × List (List Nat × List Nat) := (true, [([], []), ([], []), ([1], [1]), ([0, 2], [0, 2]), ([], []), ([4], [4]), ([5], [5]), ([3, 6, 3], [3, 6]), ([], []), ([], []), ([9], [9]), ([10], [10]), ([8, 11, 7], [8, 11]), ([7, 12], [7, 12]), ([13, 12, 0, 1, 2, 3, 4, 5, 6, 7, 8, 9, 10, 11, 12, 13], [13])])
def ld7.B : List Nat := [0, 0, 2, 7, 0, 16, 48, 127, 0, 0, 512, 1536, 4095, 8191, 16383]
theorem ld7.tab : rtab .any (opsOf Try.f39 7) = ld7.T := by kernel_rfl
theorem ld7.bits : waitsOk ld7.T.2 ld7.B = true := by kernel_rfl
set_option maxHeartbeats 16000000 in
set_option maxRecDepth 100000 in
theorem do0 (w : World) (VA RA : Option Addr) (VC RC : Nat) (vals row : List Int) (o key val : Int) (at0 : Int) (k0 : Nat) (hV : Lies w (VA, vals.length, VC) vals) (hR : Lies w (RA, row.length, RC) row) (hl : vals.length ≤ 1099511627776 ∧ row.length ≤ 1099511627776) (hat : spec_lineAt.f k0 row val = some at0) :
    Calls Try.prog 39 #[.agg #[.slice VA vals.length VC, .slice RA row.length RC], .agg #[.int .i64 o, .int .i64 0, .int .i64 key, .int .i64 val]] w fun e w' => ∃ vp rp kv, e = .returned (.tuple #[.agg #[slV vp, slV rp], .agg #[.int .i64 0, .bool false, kv, .slice none 0 0]]) ∧
      Lies w' vp (vals ++ [key]) ∧ Lies w' rp (row ++ [(vals.length : Int)]) ∧ Ro w' w.heap.size kv ([]) ∧ Below w.heap.size w w' := by
  have H0 : Hid (Dn w.heap.size w (((((w.alloc (.cells #[.slice VA vals.length VC, .slice RA row.length RC] 61)).alloc (.cells #[.int .i64 o, .int .i64 0, .int .i64 key, .int .i64 val] 27)).alloc (.cells NL 61)).alloc (.cells (F4k (.slice none 0 0)) 34)).alloc (.cells (F4k (.slice none 0 0)) 34)) (VA, vals.length, VC) (RA, row.length, RC) vals row (.slice none 0 0) []) := hid (Dn.start #[.int .i64 o, .int .i64 0, .int .i64 key, .int .i64 val] hV hR)
  have HS0 : Hid (Blk (((((w.alloc (.cells #[.slice VA vals.length VC, .slice RA row.length RC] 61)).alloc (.cells #[.int .i64 o, .int .i64 0, .int .i64 key, .int .i64 val] 27)).alloc (.cells NL 61)).alloc (.cells (F4k (.slice none 0 0)) 34)).alloc (.cells (F4k (.slice none 0 0)) 34)) (w.heap.size + 1) #[.int .i64 o, .int .i64 0, .int .i64 key, .int .i64 val] 27) := by
    have h_ := Blk.new (w.alloc (.cells #[.slice VA vals.length VC, .slice RA row.length RC] 61)) #[.int .i64 o, .int .i64 0, .int .i64 key, .int .i64 val] 27
    rw [Hk.alloc_size] at h_
    exact hid (((h_.alloc _).alloc _).alloc _)
  have HL := hid hl
  have HAT := hid hat
  clear hV hR hl hat
  go_enter Try.func39, Try.ntmps39
  go_upto_region 2 with fail
  change Code.wp _ _ _ _ (((((w.alloc (.cells #[.slice VA vals.length VC, .slice RA row.length RC] 61)).alloc (.cells #[.int .i64 o, .int .i64 0, .int .i64 key, .int .i64 val] 27)).alloc (.cells NL 61)).alloc (.cells (F4k (.slice none 0 0)) 34)).alloc (.cells (F4k (.slice none 0 0)) 34))
  generalize (((((w.alloc (.cells #[.slice VA vals.length VC, .slice RA row.length RC] 61)).alloc (.cells #[.int .i64 o, .int .i64 0, .int .i64 key, .int .i64 val] 27)).alloc (.cells NL 61)).alloc (.cells (F4k (.slice none 0 0)) 34)).alloc (.cells (F4k (.slice none 0 0)) 34)) = W0 at H0 HS0 ⊢
  obtain ⟨s, hs⟩ : ∃ s, w.heap.size = s := ⟨_, rfl⟩
  rw [hs] at H0 HS0 ⊢
  have c1 : W0.cell? ⟨s, 1, none⟩ = some (.slice RA row.length RC) := H0.out.x2.cell 1
  have k3 : W0.cell? ⟨s + 1, 3, none⟩ = some (.int .i64 val) := HS0.out.cell 3
  go_upto_region 3 with ((go_at_call 67; refine (spec_lineAt.calls k0 RA RC row val at0 W0 H0.out.lr.cells H0.out.lr.cap HAT.out).mono ?_; rintro e w' ⟨rfl, ⟨n, rfl⟩⟩))
  have H1 := hid (H0.out.drewN n)
  have HS1 : Hid (Blk (W0.drewN n) (s + 1) #[.int .i64 o, .int .i64 0, .int .i64 key, .int .i64 val] 27) := hid (HS0.out.drewN n)
  clear H0 HS0 c1 k3
  generalize W0.drewN n = W at H1 HS1 ⊢
  have k1 : W.cell? ⟨s + 1, 1, none⟩ = some (.int .i64 0) := HS1.out.cell 1
  go_upto_region 7 with fail
  clear k1
  have H3 := hid (H1.out.drewN 1)
  have HS3 : Hid (Blk W.drew (s + 1) #[.int .i64 o, .int .i64 0, .int .i64 key, .int .i64 val] 27) := hid HS1.out
  change Hid (Dn s w W.drew _ _ _ _ _ _) at H3
  have x0 : W.cell? ⟨s, 0, none⟩ = some (.slice VA vals.length VC) := H1.out.x2.cell 0
  have x2 : W.cell? ⟨s + 1, 2, none⟩ = some (.int .i64 key) := HS1.out.cell 2
  clear H1 HS1
  refine start_ (n := 15) (S := fun w' => w'.cell? ⟨s, 0, none⟩ = some (.slice VA vals.length VC) ∧ w'.cell? ⟨s + 1, 2, none⟩ = some (.int .i64 key)) (ds := [12, 14]) #[false, false, false, false, false, false, false, false, false, false, false, false, false, false, false] (by kernel_rfl) rfl rfl ⟨x0, x2⟩ (fun hHeld => ?_)
  refine with_tabW ld7.tab ld7.bits (fun HT_ HW_ => ?_)
  clear x0 x2
  generalize W.drew = Wd at H3 HS3 hHeld ⊢
  have HC3 := hid H3.out.lv.cells
  refine pure_ (i := 1) (N := some 22) (v := ?_) (a' := ?_) #[false, true, false, false, false, false, false, false, false, false, false, false, false, false, false] rfl rfl (any_of HT_.out (by kernel_rfl)) (fun _ _ _ h => h) (Or.inl ⟨by rfl, ?_⟩) ?_ ?_
  rotate_left
  · intro w'
    go_simp
    with_reducible rfl
  rotate_left
  · simp only [Act.put, List.setIfInBounds_toArray, List.set_cons_zero, List.set_cons_succ]
    rfl
  refine take_ (i := 2) (N := some 23) (v := ?_) (a' := ?_) #[false, true, true, false, false, false, false, false, false, false, false, false, false, false, false] rfl rfl (take_ofW HT_.out HW_.out (by kernel_rfl)) (fun _ _ _ h => h) (Or.inl ⟨by rfl, ?_⟩) hHeld ?_ ?_
  rotate_left
  · intro w' s0
    obtain ⟨s1, s2⟩ := s0
    go_simp
    with_reducible rfl
  rotate_left
  · simp only [Act.put, List.setIfInBounds_toArray, List.set_cons_zero, List.set_cons_succ]
    rfl
  refine pure_ (i := 4) (N := some 25) (v := ?_) (a' := ?_) #[false, true, true, false, true, false, false, false, false, false, false, false, false, false, false] rfl rfl (any_of HT_.out (by kernel_rfl)) (fun _ _ _ h => h) (Or.inl ⟨by rfl, ?_⟩) ?_ ?_
  rotate_left
  · intro w'
    go_simp
    with_reducible rfl
  rotate_left
  · simp only [Act.put, List.setIfInBounds_toArray, List.set_cons_zero, List.set_cons_succ]
    rfl
  refine take_ (i := 5) (N := some 26) (v := ?_) (a' := ?_) #[false, true, true, false, true, true, false, false, false, false, false, false, false, false, false] rfl rfl (take_ofW HT_.out HW_.out (by kernel_rfl)) (fun _ _ _ h => h) (Or.inl ⟨by rfl, ?_⟩) hHeld ?_ ?_
  rotate_left
  · intro w' s0
    obtain ⟨s1, s2⟩ := s0
    go_simp
    with_reducible rfl
  rotate_left
  · simp only [Act.put, List.setIfInBounds_toArray, List.set_cons_zero, List.set_cons_succ]
    rfl
  refine pure_ (i := 8) (N := some 29) (v := ?_) (a' := ?_) #[false, true, true, false, true, true, false, false, true, false, false, false, false, false, false] rfl rfl (any_of HT_.out (by kernel_rfl)) (fun _ _ _ h => h) (Or.inl ⟨by rfl, ?_⟩) ?_ ?_
  rotate_left
  · intro w'
    go_simp
    with_reducible rfl
  rotate_left
  · simp only [Act.put, List.setIfInBounds_toArray, List.set_cons_zero, List.set_cons_succ]
    rfl
  refine pure_ (i := 9) (N := some 30) (v := ?_) (a' := ?_) #[false, true, true, false, true, true, false, false, true, true, false, false, false, false, false] rfl rfl (any_of HT_.out (by kernel_rfl)) (fun _ _ _ h => h) (Or.inl ⟨by rfl, ?_⟩) ?_ ?_
  rotate_left
  · intro w'
    go_simp
    with_reducible rfl
  rotate_left
  · simp only [Act.put, List.setIfInBounds_toArray, List.set_cons_zero, List.set_cons_succ]
    rfl
  refine take_ (i := 10) (N := some 31) (v := ?_) (a' := ?_) #[false, true, true, false, true, true, false, false, true, true, true, false, false, false, false] rfl rfl (take_ofW HT_.out HW_.out (by kernel_rfl)) (fun _ _ _ h => h) (Or.inl ⟨by rfl, ?_⟩) hHeld ?_ ?_
  rotate_left
  · intro w' s0
    obtain ⟨s1, s2⟩ := s0
    go_simp
    with_reducible rfl
  rotate_left
  · simp only [Act.put, List.setIfInBounds_toArray, List.set_cons_zero, List.set_cons_succ]
    rfl
  refine pure_ (i := 11) (N := some 32) (v := ?_) (a' := ?_) #[false, true, true, false, true, true, false, false, true, true, true, true, false, false, false] rfl rfl (any_of HT_.out (by kernel_rfl)) (fun _ _ _ h => h) (Or.inl ⟨by rfl, ?_⟩) ?_ ?_
  rotate_left
  · intro w'
    go_simp
    with_reducible rfl
  rotate_left
  · simp only [Act.put, List.setIfInBounds_toArray, List.set_cons_zero, List.set_cons_succ]
    rfl
  have HB0 : Hid (Below Wd.heap.size Wd Wd) := hid (Below.refl _ _)
  refine two_ (i := 0) (j := 6) (Ni := some 21) (Nj := some 27) #[true, true, true, false, true, true, false, false, true, true, true, true, false, false, false] #[false, true, true, false, true, true, true, false, true, true, true, true, false, false, false] rfl rfl rfl rfl (two_of HT_.out (by kernel_rfl)) (by decide) (by decide) (fun K_ hK => ?_) (fun K_ hK => ?_)
  · refine value_ (w1 := ?_) (v := ?_) (by rfl) rfl ?_ ?_
    rotate_left 2
    · go_simp
      constructor
      · rfl
      · rfl
    refine hK.out _ _ ⟨(H3.out.later (HB0.out.alloc HB0.out.size _)).x2.cell 0, (HS3.out.below (HB0.out.alloc HB0.out.size _) HS3.out.lt).cell 2⟩ (fun hHeld => ?_)
    clear hK K_
    have HB1' : Hid (Below Wd.heap.size Wd (Wd.alloc (.cells #[] 3)) ∧ Wd.heap.size < (Wd.alloc (.cells #[] 3)).heap.size) := hid ⟨HB0.out.alloc HB0.out.size _, by simp⟩
    have HE1 : Hid (Ro (Wd.alloc (.cells #[] 3)) Wd.heap.size (.slice (some ⟨Wd.heap.size, 0, none⟩) 0 0) []) := hid (ro_lit HB0.out.size)
    generalize Wd.alloc (.cells #[] 3) = W1 at HB1' HE1 hHeld ⊢
    refine norm_ (a' := ?_) ?_ ?_
    rotate_left
    · show Act.put _ (some 21) _ = _
      simp only [Act.put, List.setIfInBounds_toArray, List.set_cons_zero, List.set_cons_succ]
      rfl
    have HB1 := hid HB1'.out.1
    refine two_ (i := 3) (j := 6) (Ni := some 24) (Nj := some 27) #[true, true, true, true, true, true, false, false, true, true, true, true, false, false, false] #[true, true, true, false, true, true, true, false, true, true, true, true, false, false, false] rfl rfl rfl rfl (two_of HT_.out (by kernel_rfl)) (by decide) (by decide) (fun K_ hK => ?_) (fun K_ hK => ?_)
    · refine Kd.R_append_rows_step (Kd.int .i64) (w0 := Wd) Wd.heap.size rfl (.tmp 21) (.tmp 23) 30 3 (.int .i64 0) 8 rfl Try.underlying30 Heap.info3 rfl (by decide) (by omega) (.slice (some ⟨Wd.heap.size, 0, none⟩) 0 0) [] vals VA vals.length VC (fun _ => True) (fun _ => False) rfl rfl HE1.out (Kd.C_below HC3.out HB1.out) (fun _ _ h => h) (fun _ h => h.elim) (fun _ _ => trivial) HB1.out HB1.out.size (by have h_ := HL.out; rw [List.length_nil]; omega) ?_
      intro v37 W2 ho hb hg hat
      obtain ⟨A7, c7, rfl⟩ := Kd.R_slice ho
      have HB2 := hid hb
      have HE2 : Hid (Ro W2 Wd.heap.size (.slice A7 ([] ++ vals).length c7) ([] ++ vals)) := hid ho
      clear ho hb hg hat
      refine hK.out _ _ ⟨(H3.out.later HB2.out).x2.cell 0, (HS3.out.below HB2.out HS3.out.lt).cell 2⟩ (fun hHeld => ?_)
      clear hK K_
      refine norm_ (a' := ?_) ?_ ?_
      rotate_left
      · show Act.put _ (some 24) _ = _
        simp only [Act.put, List.setIfInBounds_toArray, List.set_cons_zero, List.set_cons_succ]
        rfl
      refine one_ (i := 6) (N := some 27) #[true, true, true, true, true, true, true, false, true, true, true, true, false, false, false] rfl rfl (one_of HT_.out (by kernel_rfl)) (by decide) (fun K_ hK => ?_)
      refine value_ (w1 := ?_) (v := ?_) (by rfl) rfl ?_ ?_
      rotate_left 2
      · go_simp
        constructor
        · rfl
        · rfl
      refine hK.out _ _ ⟨(H3.out.later (HB2.out.alloc HB2.out.size _)).x2.cell 0, (HS3.out.below (HB2.out.alloc HB2.out.size _) HS3.out.lt).cell 2⟩ (fun hHeld => ?_)
      clear hK K_
      have HB3' : Hid (Below Wd.heap.size Wd (W2.alloc (.cells #[.int .i64 key] 3)) ∧ W2.heap.size < (W2.alloc (.cells #[.int .i64 key] 3)).heap.size) := hid ⟨HB2.out.alloc HB2.out.size _, by simp⟩
      have HK3 : Hid (Blk (W2.alloc (.cells #[.int .i64 key] 3)) W2.heap.size #[.int .i64 key] 3) := hid (Blk.new _ _ _)
      have HE3 : Hid (Ro (W2.alloc (.cells #[.int .i64 key] 3)) Wd.heap.size (.slice A7 ([] ++ vals).length c7) ([] ++ vals)) := hid (Kd.R_alloc HE2.out _)
      generalize W2.alloc (.cells #[.int .i64 key] 3) = W3 at HB3' HK3 HE3 hHeld ⊢
      refine norm_ (a' := ?_) ?_ ?_
      rotate_left
      · show Act.put _ (some 27) _ = _
        simp only [Act.put, List.setIfInBounds_toArray, List.set_cons_zero, List.set_cons_succ]
        rfl
      have HB3 := hid HB3'.out.1
      refine one_ (i := 7) (N := some 28) #[true, true, true, true, true, true, true, true, true, true, true, true, false, false, false] rfl rfl (one_of HT_.out (by kernel_rfl)) (by decide) (fun K_ hK => ?_)
      refine Row.append_int rfl (.tmp 24) (.tmp 27) 30 3 rfl Try.underlying30 Heap.info3 Wd.heap.size (.slice A7 ([] ++ vals).length c7) ([] ++ vals) key (fun _ => True) W3 rfl HE3.out ⟨W2.heap.size, 0, none⟩ 1 rfl (HK3.out.cell 0) (by have h_ := HL.out; rw [List.nil_append]; omega) HB3.out.size ?_
      intro v9 W8 ho hg hat
      obtain ⟨A9, c9, rfl⟩ := Kd.R_slice ho
      have HB9 : Hid (Below Wd.heap.size Wd W8) := hid (HB3.out.trans ((Fr.of_grown hg).below HB3.out.size (fun k hk => Kd.R_base HE3.out k hk.symm)))
      have HV9 : Hid (Lies W8 (A9, vals.length + 1, c9) (vals ++ [key])) := by
        have h_ := Lies.of ho
        have hl_ : ([] ++ vals ++ [key]).length = vals.length + 1 := by simp
        rw [hl_] at h_
        exact hid h_
      clear ho hg hat
      refine hK.out _ _ ⟨(H3.out.later HB9.out).x2.cell 0, (HS3.out.below HB9.out HS3.out.lt).cell 2⟩ (fun hHeld => ?_)
      clear hK K_
      refine norm_ (a' := ?_) ?_ ?_
      rotate_left
      · show Act.put _ (some 28) _ = _
        simp only [Act.put, List.setIfInBounds_toArray, List.set_cons_zero, List.set_cons_succ]
        rfl
      have H8 := hid (H3.out.later HB9.out)
      have HBF := hid HB9.out.size
      clear H3 HS3 HC3 HB9
      refine last_ (i := 12) (N := some 33) #[true, true, true, true, true, true, true, true, true, true, true, true, true, false, false] rfl rfl (one_of HT_.out (by kernel_rfl)) (by decide) (fun K_ hK => ?_)
      refine call_ (N := some 33) 68 #[.int .i64 (vals.length : Int), .pointer (some ⟨s, 0, none⟩)] (by rfl) rfl (by go_simp) ?_
      have HCall_ := back_any s W8 _ RA RC row (vals.length : Int) H8.out.x2 H8.out.lr HL.out.2
      refine HCall_.mono ?_
      clear HCall_
      rintro e W10 ⟨A10, c10, rfl, hO, hB⟩
      have H10 := hid (H8.out.later hB)
      have HV10 := hid (HV9.out.below hB)
      have HR10 : Hid (Lies W10 (A10, row.length + 1, c10) (row ++ [(vals.length : Int)])) := hid (Lies.of hO)
      clear hO hB H8 HV9
      refine ⟨_, rfl, ?_⟩
      refine hK.out _ _ ?_
      clear hK K_
      refine norm_ (a' := ?_) ?_ ?_
      rotate_left
      · show Act.put _ (some 33) _ = _
        simp only [Act.put, List.setIfInBounds_toArray, List.set_cons_zero, List.set_cons_succ]
        rfl
      refine pure_ (i := 13) (N := some 34) (v := ?_) (a' := ?_) #[true, true, true, true, true, true, true, true, true, true, true, true, true, true, false] rfl rfl (any_of HT_.out (by kernel_rfl)) (fun _ _ _ h => h) (Or.inl ⟨by rfl, ?_⟩) ?_ ?_
      rotate_left
      · intro w'
        go_simp
        with_reducible rfl
      rotate_left
      · simp only [Act.put, List.setIfInBounds_toArray, List.set_cons_zero, List.set_cons_succ]
        rfl
      have d4 : W10.cell? ⟨s, 0, none⟩ = some (.slice VA vals.length VC) := H10.out.x2.cell 0
      have f4 : W10.frozen? ⟨s, 0, none⟩ = false := H10.out.x2.free 0
      have d5 : W10.cell? ⟨s, 1, none⟩ = some (.slice RA row.length RC) := H10.out.x2.cell 1
      have f5 : W10.frozen? ⟨s, 1, none⟩ = false := H10.out.x2.free 1
      refine last_ (i := 14) (N := none) #[true, true, true, true, true, true, true, true, true, true, true, true, true, true, true] rfl rfl (one_of HT_.out (by kernel_rfl)) (by decide) (fun K_ hK => ?_)
      refine skip_ (w1 := ?_) (by rfl) rfl ?_ ?_
      rotate_left
      · go_simp
        rfl
      refine hK.out _ _ ?_
      clear hK K_
      refine done_ (done_of HT_.out (by kernel_rfl)) ?_
      clear HT_ HW_
      clear d4 f4 d5 f5
      have H9 := hid (H10.out.both HV10.out HR10.out)
      clear H10 HV10 HR10
      go_upto_region 26 with fail
      change Code.wp _ _ _ _ ((W10.setCell ⟨s, 0, none⟩ (slV (A9, vals.length + 1, c9))).setCell ⟨s, 1, none⟩ (slV (A10, row.length + 1, c10)))
      generalize (W10.setCell ⟨s, 0, none⟩ (slV (A9, vals.length + 1, c9))).setCell ⟨s, 1, none⟩ (slV (A10, row.length + 1, c10)) = W9 at H9 ⊢
      have a0 : W9.cell? ⟨s, 0, none⟩ = some (.slice A9 (vals.length + 1) c9) := H9.out.x2.cell 0
      have a1 : W9.cell? ⟨s, 1, none⟩ = some (.slice A10 (row.length + 1) c10) := H9.out.x2.cell 1
      have b0 : W9.cell? ⟨s + 1 + 1 + 1 + 1, 0, none⟩ = some (.int .i64 0) := H9.out.x6.cell 0
      have b1 : W9.cell? ⟨s + 1 + 1 + 1 + 1, 1, none⟩ = some (.bool false) := H9.out.x6.cell 1
      have b2 : W9.cell? ⟨s + 1 + 1 + 1 + 1, 2, none⟩ = some (.slice none 0 0) := H9.out.x6.cell 2
      have b3 : W9.cell? ⟨s + 1 + 1 + 1 + 1, 3, none⟩ = some (.slice none 0 0) := H9.out.x6.cell 3
      have d0 : W9.cell? ⟨s + 1 + 1, 0, none⟩ = some (.slice none 0 0) := H9.out.x4.cell 0
      have e0 : W9.frozen? ⟨s + 1 + 1, 0, none⟩ = false := H9.out.x4.free 0
      have d1 : W9.cell? ⟨s + 1 + 1, 1, none⟩ = some (.slice none 0 0) := H9.out.x4.cell 1
      have e1 : W9.frozen? ⟨s + 1 + 1, 1, none⟩ = false := H9.out.x4.free 1
      have f0 : W9.cell? ⟨s + 1 + 1 + 1, 0, none⟩ = some (.int .i64 0) := H9.out.x5.cell 0
      have g0 : W9.frozen? ⟨s + 1 + 1 + 1, 0, none⟩ = false := H9.out.x5.free 0
      have f1 : W9.cell? ⟨s + 1 + 1 + 1, 1, none⟩ = some (.bool false) := H9.out.x5.cell 1
      have g1 : W9.frozen? ⟨s + 1 + 1 + 1, 1, none⟩ = false := H9.out.x5.free 1
      have f2 : W9.cell? ⟨s + 1 + 1 + 1, 2, none⟩ = some (.slice none 0 0) := H9.out.x5.cell 2
      have g2 : W9.frozen? ⟨s + 1 + 1 + 1, 2, none⟩ = false := H9.out.x5.free 2
      have f3 : W9.cell? ⟨s + 1 + 1 + 1, 3, none⟩ = some (.slice none 0 0) := H9.out.x5.cell 3
      have g3 : W9.frozen? ⟨s + 1 + 1 + 1, 3, none⟩ = false := H9.out.x5.free 3
      go_upto_region 26 with fail
      go_region
      go_wp2_with fail
      refine bodyPost_ret (v := .tuple #[.agg #[.slice A9 (vals.length + 1) c9, .slice A10 (row.length + 1) c10], .agg #[.int .i64 0, .bool false, .slice none 0 0, .slice none 0 0]]) (by simp [results, Try.results39, go_sem, d0, d1, f0, f1, f2, f3]) rfl ?_
      obtain ⟨r1, r2, r3, r4⟩ := H9.out.fin (W1 := _) (fin_fr _ (.slice A9 (vals.length + 1) c9) (.slice A10 (row.length + 1) c10) (.int .i64 0) (.bool false) (.slice none 0 0) (.slice none 0 0))
      exact ⟨(A9, (vals.length + 1), c9), (A10, (row.length + 1), c10), .slice none 0 0, rfl, r1, r2, by rw [hs]; exact r3, by rw [hs]; exact r4⟩
    · refine value_ (w1 := ?_) (v := ?_) (by rfl) rfl ?_ ?_
      rotate_left 2
      · go_simp
        constructor
        · rfl
        · rfl
      refine hK.out _ _ ⟨(H3.out.later (HB1.out.alloc HB1.out.size _)).x2.cell 0, (HS3.out.below (HB1.out.alloc HB1.out.size _) HS3.out.lt).cell 2⟩ (fun hHeld => ?_)
      clear hK K_
      have HB2' : Hid (Below Wd.heap.size Wd (W1.alloc (.cells #[.int .i64 key] 3)) ∧ W1.heap.size < (W1.alloc (.cells #[.int .i64 key] 3)).heap.size) := hid ⟨HB1.out.alloc HB1.out.size _, by simp⟩
      have HK2 : Hid (Blk (W1.alloc (.cells #[.int .i64 key] 3)) W1.heap.size #[.int .i64 key] 3) := hid (Blk.new _ _ _)
      have HE2 : Hid (Ro (W1.alloc (.cells #[.int .i64 key] 3)) Wd.heap.size (.slice (some ⟨Wd.heap.size, 0, none⟩) 0 0) []) := hid (Kd.R_alloc HE1.out _)
      generalize W1.alloc (.cells #[.int .i64 key] 3) = W2 at HB2' HK2 HE2 hHeld ⊢
      refine norm_ (a' := ?_) ?_ ?_
      rotate_left
      · show Act.put _ (some 27) _ = _
        simp only [Act.put, List.setIfInBounds_toArray, List.set_cons_zero, List.set_cons_succ]
        rfl
      have HB2 := hid HB2'.out.1
      refine one_ (i := 3) (N := some 24) #[true, true, true, true, true, true, true, false, true, true, true, true, false, false, false] rfl rfl (one_of HT_.out (by kernel_rfl)) (by decide) (fun K_ hK => ?_)
      refine Kd.R_append_rows_step (Kd.int .i64) (w0 := Wd) Wd.heap.size rfl (.tmp 21) (.tmp 23) 30 3 (.int .i64 0) 8 rfl Try.underlying30 Heap.info3 rfl (by decide) (by omega) (.slice (some ⟨Wd.heap.size, 0, none⟩) 0 0) [] vals VA vals.length VC (fun _ => True) (fun _ => False) rfl rfl HE2.out (Kd.C_below HC3.out HB2.out) (fun _ _ h => h) (fun _ h => h.elim) (fun _ _ => trivial) HB2.out HB2.out.size (by have h_ := HL.out; rw [List.length_nil]; omega) ?_
      intro v37 W3 ho hb hg hat
      obtain ⟨A7, c7, rfl⟩ := Kd.R_slice ho
      have HB3 := hid hb
      have HE3 : Hid (Ro W3 Wd.heap.size (.slice A7 ([] ++ vals).length c7) ([] ++ vals)) := hid ho
      have HK3 : Hid (Blk W3 W1.heap.size #[.int .i64 key] 3) := hid (HK2.out.fr (Fr.of_grown hg) (fun e => by have e2 : W1.heap.size = Wd.heap.size := (by simpa [Value.ownBlock] using e); have := HB1'.out.2; omega))
      clear ho hb hg hat
      refine hK.out _ _ ⟨(H3.out.later HB3.out).x2.cell 0, (HS3.out.below HB3.out HS3.out.lt).cell 2⟩ (fun hHeld => ?_)
      clear hK K_
      refine norm_ (a' := ?_) ?_ ?_
      rotate_left
      · show Act.put _ (some 24) _ = _
        simp only [Act.put, List.setIfInBounds_toArray, List.set_cons_zero, List.set_cons_succ]
        rfl
      refine one_ (i := 7) (N := some 28) #[true, true, true, true, true, true, true, true, true, true, true, true, false, false, false] rfl rfl (one_of HT_.out (by kernel_rfl)) (by decide) (fun K_ hK => ?_)
      refine Row.append_int rfl (.tmp 24) (.tmp 27) 30 3 rfl Try.underlying30 Heap.info3 Wd.heap.size (.slice A7 ([] ++ vals).length c7) ([] ++ vals) key (fun _ => True) W3 rfl HE3.out ⟨W1.heap.size, 0, none⟩ 1 rfl (HK3.out.cell 0) (by have h_ := HL.out; rw [List.nil_append]; omega) HB3.out.size ?_
      intro v9 W8 ho hg hat
      obtain ⟨A9, c9, rfl⟩ := Kd.R_slice ho
      have HB9 : Hid (Below Wd.heap.size Wd W8) := hid (HB3.out.trans ((Fr.of_grown hg).below HB3.out.size (fun k hk => Kd.R_base HE3.out k hk.symm)))
      have HV9 : Hid (Lies W8 (A9, vals.length + 1, c9) (vals ++ [key])) := by
        have h_ := Lies.of ho
        have hl_ : ([] ++ vals ++ [key]).length = vals.length + 1 := by simp
        rw [hl_] at h_
        exact hid h_
      clear ho hg hat
      refine hK.out _ _ ⟨(H3.out.later HB9.out).x2.cell 0, (HS3.out.below HB9.out HS3.out.lt).cell 2⟩ (fun hHeld => ?_)
      clear hK K_
      refine norm_ (a' := ?_) ?_ ?_
      rotate_left
      · show Act.put _ (some 28) _ = _
        simp only [Act.put, List.setIfInBounds_toArray, List.set_cons_zero, List.set_cons_succ]
        rfl
      have H8 := hid (H3.out.later HB9.out)
      have HBF := hid HB9.out.size
      clear H3 HS3 HC3 HB9
      refine last_ (i := 12) (N := some 33) #[true, true, true, true, true, true, true, true, true, true, true, true, true, false, false] rfl rfl (one_of HT_.out (by kernel_rfl)) (by decide) (fun K_ hK => ?_)
      refine call_ (N := some 33) 68 #[.int .i64 (vals.length : Int), .pointer (some ⟨s, 0, none⟩)] (by rfl) rfl (by go_simp) ?_
      have HCall_ := back_any s W8 _ RA RC row (vals.length : Int) H8.out.x2 H8.out.lr HL.out.2
      refine HCall_.mono ?_
      clear HCall_
      rintro e W10 ⟨A10, c10, rfl, hO, hB⟩
      have H10 := hid (H8.out.later hB)
      have HV10 := hid (HV9.out.below hB)
      have HR10 : Hid (Lies W10 (A10, row.length + 1, c10) (row ++ [(vals.length : Int)])) := hid (Lies.of hO)
      clear hO hB H8 HV9
      refine ⟨_, rfl, ?_⟩
      refine hK.out _ _ ?_
      clear hK K_
      refine norm_ (a' := ?_) ?_ ?_
      rotate_left
      · show Act.put _ (some 33) _ = _
        simp only [Act.put, List.setIfInBounds_toArray, List.set_cons_zero, List.set_cons_succ]
        rfl
      refine pure_ (i := 13) (N := some 34) (v := ?_) (a' := ?_) #[true, true, true, true, true, true, true, true, true, true, true, true, true, true, false] rfl rfl (any_of HT_.out (by kernel_rfl)) (fun _ _ _ h => h) (Or.inl ⟨by rfl, ?_⟩) ?_ ?_
      rotate_left
      · intro w'
        go_simp
        with_reducible rfl
      rotate_left
      · simp only [Act.put, List.setIfInBounds_toArray, List.set_cons_zero, List.set_cons_succ]
        rfl
      have d4 : W10.cell? ⟨s, 0, none⟩ = some (.slice VA vals.length VC) := H10.out.x2.cell 0
      have f4 : W10.frozen? ⟨s, 0, none⟩ = false := H10.out.x2.free 0
      have d5 : W10.cell? ⟨s, 1, none⟩ = some (.slice RA row.length RC) := H10.out.x2.cell 1
      have f5 : W10.frozen? ⟨s, 1, none⟩ = false := H10.out.x2.free 1
      refine last_ (i := 14) (N := none) #[true, true, true, true, true, true, true, true, true, true, true, true, true, true, true] rfl rfl (one_of HT_.out (by kernel_rfl)) (by decide) (fun K_ hK => ?_)
      refine skip_ (w1 := ?_) (by rfl) rfl ?_ ?_
      rotate_left
      · go_simp
        rfl
      refine hK.out _ _ ?_
      clear hK K_
      refine done_ (done_of HT_.out (by kernel_rfl)) ?_
      clear HT_ HW_
      clear d4 f4 d5 f5
      have H9 := hid (H10.out.both HV10.out HR10.out)
      clear H10 HV10 HR10
      go_upto_region 26 with fail
      change Code.wp _ _ _ _ ((W10.setCell ⟨s, 0, none⟩ (slV (A9, vals.length + 1, c9))).setCell ⟨s, 1, none⟩ (slV (A10, row.length + 1, c10)))
      generalize (W10.setCell ⟨s, 0, none⟩ (slV (A9, vals.length + 1, c9))).setCell ⟨s, 1, none⟩ (slV (A10, row.length + 1, c10)) = W9 at H9 ⊢
      have a0 : W9.cell? ⟨s, 0, none⟩ = some (.slice A9 (vals.length + 1) c9) := H9.out.x2.cell 0
      have a1 : W9.cell? ⟨s, 1, none⟩ = some (.slice A10 (row.length + 1) c10) := H9.out.x2.cell 1
      have b0 : W9.cell? ⟨s + 1 + 1 + 1 + 1, 0, none⟩ = some (.int .i64 0) := H9.out.x6.cell 0
      have b1 : W9.cell? ⟨s + 1 + 1 + 1 + 1, 1, none⟩ = some (.bool false) := H9.out.x6.cell 1
      have b2 : W9.cell? ⟨s + 1 + 1 + 1 + 1, 2, none⟩ = some (.slice none 0 0) := H9.out.x6.cell 2
      have b3 : W9.cell? ⟨s + 1 + 1 + 1 + 1, 3, none⟩ = some (.slice none 0 0) := H9.out.x6.cell 3
      have d0 : W9.cell? ⟨s + 1 + 1, 0, none⟩ = some (.slice none 0 0) := H9.out.x4.cell 0
      have e0 : W9.frozen? ⟨s + 1 + 1, 0, none⟩ = false := H9.out.x4.free 0
      have d1 : W9.cell? ⟨s + 1 + 1, 1, none⟩ = some (.slice none 0 0) := H9.out.x4.cell 1
      have e1 : W9.frozen? ⟨s + 1 + 1, 1, none⟩ = false := H9.out.x4.free 1
      have f0 : W9.cell? ⟨s + 1 + 1 + 1, 0, none⟩ = some (.int .i64 0) := H9.out.x5.cell 0
      have g0 : W9.frozen? ⟨s + 1 + 1 + 1, 0, none⟩ = false := H9.out.x5.free 0
      have f1 : W9.cell? ⟨s + 1 + 1 + 1, 1, none⟩ = some (.bool false) := H9.out.x5.cell 1
      have g1 : W9.frozen? ⟨s + 1 + 1 + 1, 1, none⟩ = false := H9.out.x5.free 1
      have f2 : W9.cell? ⟨s + 1 + 1 + 1, 2, none⟩ = some (.slice none 0 0) := H9.out.x5.cell 2
      have g2 : W9.frozen? ⟨s + 1 + 1 + 1, 2, none⟩ = false := H9.out.x5.free 2
      have f3 : W9.cell? ⟨s + 1 + 1 + 1, 3, none⟩ = some (.slice none 0 0) := H9.out.x5.cell 3
      have g3 : W9.frozen? ⟨s + 1 + 1 + 1, 3, none⟩ = false := H9.out.x5.free 3
      go_upto_region 26 with fail
      go_region
      go_wp2_with fail
      refine bodyPost_ret (v := .tuple #[.agg #[.slice A9 (vals.length + 1) c9, .slice A10 (row.length + 1) c10], .agg #[.int .i64 0, .bool false, .slice none 0 0, .slice none 0 0]]) (by simp [results, Try.results39, go_sem, d0, d1, f0, f1, f2, f3]) rfl ?_
      obtain ⟨r1, r2, r3, r4⟩ := H9.out.fin (W1 := _) (fin_fr _ (.slice A9 (vals.length + 1) c9) (.slice A10 (row.length + 1) c10) (.int .i64 0) (.bool false) (.slice none 0 0) (.slice none 0 0))
      exact ⟨(A9, (vals.length + 1), c9), (A10, (row.length + 1), c10), .slice none 0 0, rfl, r1, r2, by rw [hs]; exact r3, by rw [hs]; exact r4⟩
  · refine value_ (w1 := ?_) (v := ?_) (by rfl) rfl ?_ ?_
    rotate_left 2
    · go_simp
      constructor
      · rfl
      · rfl
    refine hK.out _ _ ⟨(H3.out.later (HB0.out.alloc HB0.out.size _)).x2.cell 0, (HS3.out.below (HB0.out.alloc HB0.out.size _) HS3.out.lt).cell 2⟩ (fun hHeld => ?_)
    clear hK K_
    have HB1' : Hid (Below Wd.heap.size Wd (Wd.alloc (.cells #[.int .i64 key] 3)) ∧ Wd.heap.size < (Wd.alloc (.cells #[.int .i64 key] 3)).heap.size) := hid ⟨HB0.out.alloc HB0.out.size _, by simp⟩
    have HK1 : Hid (Blk (Wd.alloc (.cells #[.int .i64 key] 3)) Wd.heap.size #[.int .i64 key] 3) := hid (Blk.new _ _ _)
    generalize Wd.alloc (.cells #[.int .i64 key] 3) = W1 at HB1' HK1 hHeld ⊢
    refine norm_ (a' := ?_) ?_ ?_
    rotate_left
    · show Act.put _ (some 27) _ = _
      simp only [Act.put, List.setIfInBounds_toArray, List.set_cons_zero, List.set_cons_succ]
      rfl
    have HB1 := hid HB1'.out.1
    refine one_ (i := 0) (N := some 21) #[true, true, true, false, true, true, true, false, true, true, true, true, false, false, false] rfl rfl (one_of HT_.out (by kernel_rfl)) (by decide) (fun K_ hK => ?_)
    refine value_ (w1 := ?_) (v := ?_) (by rfl) rfl ?_ ?_
    rotate_left 2
    · go_simp
      constructor
      · rfl
      · rfl
    refine hK.out _ _ ⟨(H3.out.later (HB1.out.alloc HB1.out.size _)).x2.cell 0, (HS3.out.below (HB1.out.alloc HB1.out.size _) HS3.out.lt).cell 2⟩ (fun hHeld => ?_)
    clear hK K_
    have HB2' : Hid (Below Wd.heap.size Wd (W1.alloc (.cells #[] 3)) ∧ W1.heap.size < (W1.alloc (.cells #[] 3)).heap.size) := hid ⟨HB1.out.alloc HB1.out.size _, by simp⟩
    have HE2 : Hid (Ro (W1.alloc (.cells #[] 3)) Wd.heap.size (.slice (some ⟨W1.heap.size, 0, none⟩) 0 0) []) := hid (ro_lit HB1.out.size)
    have HK2 : Hid (Blk (W1.alloc (.cells #[] 3)) Wd.heap.size #[.int .i64 key] 3) := hid (HK1.out.alloc _)
    generalize W1.alloc (.cells #[] 3) = W2 at HB2' HE2 HK2 hHeld ⊢
    refine norm_ (a' := ?_) ?_ ?_
    rotate_left
    · show Act.put _ (some 21) _ = _
      simp only [Act.put, List.setIfInBounds_toArray, List.set_cons_zero, List.set_cons_succ]
      rfl
    have HB2 := hid HB2'.out.1
    refine one_ (i := 3) (N := some 24) #[true, true, true, true, true, true, true, false, true, true, true, true, false, false, false] rfl rfl (one_of HT_.out (by kernel_rfl)) (by decide) (fun K_ hK => ?_)
    refine Kd.R_append_rows_step (Kd.int .i64) (w0 := Wd) Wd.heap.size rfl (.tmp 21) (.tmp 23) 30 3 (.int .i64 0) 8 rfl Try.underlying30 Heap.info3 rfl (by decide) (by omega) (.slice (some ⟨W1.heap.size, 0, none⟩) 0 0) [] vals VA vals.length VC (fun _ => True) (fun _ => False) rfl rfl HE2.out (Kd.C_below HC3.out HB2.out) (fun _ _ h => h) (fun _ h => h.elim) (fun _ _ => trivial) HB2.out HB2.out.size (by have h_ := HL.out; rw [List.length_nil]; omega) ?_
    intro v37 W3 ho hb hg hat
    obtain ⟨A7, c7, rfl⟩ := Kd.R_slice ho
    have HB3 := hid hb
    have HE3 : Hid (Ro W3 Wd.heap.size (.slice A7 ([] ++ vals).length c7) ([] ++ vals)) := hid ho
    have HK3 : Hid (Blk W3 Wd.heap.size #[.int .i64 key] 3) := hid (HK2.out.fr (Fr.of_grown hg) (fun e => by have e2 : Wd.heap.size = W1.heap.size := (by simpa [Value.ownBlock] using e); have := HB1'.out.2; omega))
    clear ho hb hg hat
    refine hK.out _ _ ⟨(H3.out.later HB3.out).x2.cell 0, (HS3.out.below HB3.out HS3.out.lt).cell 2⟩ (fun hHeld => ?_)
    clear hK K_
    refine norm_ (a' := ?_) ?_ ?_
    rotate_left
    · show Act.put _ (some 24) _ = _
      simp only [Act.put, List.setIfInBounds_toArray, List.set_cons_zero, List.set_cons_succ]
      rfl
    refine one_ (i := 7) (N := some 28) #[true, true, true, true, true, true, true, true, true, true, true, true, false, false, false] rfl rfl (one_of HT_.out (by kernel_rfl)) (by decide) (fun K_ hK => ?_)
    refine Row.append_int rfl (.tmp 24) (.tmp 27) 30 3 rfl Try.underlying30 Heap.info3 Wd.heap.size (.slice A7 ([] ++ vals).length c7) ([] ++ vals) key (fun _ => True) W3 rfl HE3.out ⟨Wd.heap.size, 0, none⟩ 1 rfl (HK3.out.cell 0) (by have h_ := HL.out; rw [List.nil_append]; omega) HB3.out.size ?_
    intro v9 W8 ho hg hat
    obtain ⟨A9, c9, rfl⟩ := Kd.R_slice ho
    have HB9 : Hid (Below Wd.heap.size Wd W8) := hid (HB3.out.trans ((Fr.of_grown hg).below HB3.out.size (fun k hk => Kd.R_base HE3.out k hk.symm)))
    have HV9 : Hid (Lies W8 (A9, vals.length + 1, c9) (vals ++ [key])) := by
      have h_ := Lies.of ho
      have hl_ : ([] ++ vals ++ [key]).length = vals.length + 1 := by simp
      rw [hl_] at h_
      exact hid h_
    clear ho hg hat
    refine hK.out _ _ ⟨(H3.out.later HB9.out).x2.cell 0, (HS3.out.below HB9.out HS3.out.lt).cell 2⟩ (fun hHeld => ?_)
    clear hK K_
    refine norm_ (a' := ?_) ?_ ?_
    rotate_left
    · show Act.put _ (some 28) _ = _
      simp only [Act.put, List.setIfInBounds_toArray, List.set_cons_zero, List.set_cons_succ]
      rfl
    have H8 := hid (H3.out.later HB9.out)
    have HBF := hid HB9.out.size
    clear H3 HS3 HC3 HB9
    refine last_ (i := 12) (N := some 33) #[true, true, true, true, true, true, true, true, true, true, true, true, true, false, false] rfl rfl (one_of HT_.out (by kernel_rfl)) (by decide) (fun K_ hK => ?_)
    refine call_ (N := some 33) 68 #[.int .i64 (vals.length : Int), .pointer (some ⟨s, 0, none⟩)] (by rfl) rfl (by go_simp) ?_
    have HCall_ := back_any s W8 _ RA RC row (vals.length : Int) H8.out.x2 H8.out.lr HL.out.2
    refine HCall_.mono ?_
    clear HCall_
    rintro e W10 ⟨A10, c10, rfl, hO, hB⟩
    have H10 := hid (H8.out.later hB)
    have HV10 := hid (HV9.out.below hB)
    have HR10 : Hid (Lies W10 (A10, row.length + 1, c10) (row ++ [(vals.length : Int)])) := hid (Lies.of hO)
    clear hO hB H8 HV9
    refine ⟨_, rfl, ?_⟩
    refine hK.out _ _ ?_
    clear hK K_
    refine norm_ (a' := ?_) ?_ ?_
    rotate_left
    · show Act.put _ (some 33) _ = _
      simp only [Act.put, List.setIfInBounds_toArray, List.set_cons_zero, List.set_cons_succ]
      rfl
    refine pure_ (i := 13) (N := some 34) (v := ?_) (a' := ?_) #[true, true, true, true, true, true, true, true, true, true, true, true, true, true, false] rfl rfl (any_of HT_.out (by kernel_rfl)) (fun _ _ _ h => h) (Or.inl ⟨by rfl, ?_⟩) ?_ ?_
    rotate_left
    · intro w'
      go_simp
      with_reducible rfl
    rotate_left
    · simp only [Act.put, List.setIfInBounds_toArray, List.set_cons_zero, List.set_cons_succ]
      rfl
    have d4 : W10.cell? ⟨s, 0, none⟩ = some (.slice VA vals.length VC) := H10.out.x2.cell 0
    have f4 : W10.frozen? ⟨s, 0, none⟩ = false := H10.out.x2.free 0
    have d5 : W10.cell? ⟨s, 1, none⟩ = some (.slice RA row.length RC) := H10.out.x2.cell 1
    have f5 : W10.frozen? ⟨s, 1, none⟩ = false := H10.out.x2.free 1
    refine last_ (i := 14) (N := none) #[true, true, true, true, true, true, true, true, true, true, true, true, true, true, true] rfl rfl (one_of HT_.out (by kernel_rfl)) (by decide) (fun K_ hK => ?_)
    refine skip_ (w1 := ?_) (by rfl) rfl ?_ ?_
    rotate_left
    · go_simp
      rfl
    refine hK.out _ _ ?_
    clear hK K_
    refine done_ (done_of HT_.out (by kernel_rfl)) ?_
    clear HT_ HW_
    clear d4 f4 d5 f5
    have H9 := hid (H10.out.both HV10.out HR10.out)
    clear H10 HV10 HR10
    go_upto_region 26 with fail
    change Code.wp _ _ _ _ ((W10.setCell ⟨s, 0, none⟩ (slV (A9, vals.length + 1, c9))).setCell ⟨s, 1, none⟩ (slV (A10, row.length + 1, c10)))
    generalize (W10.setCell ⟨s, 0, none⟩ (slV (A9, vals.length + 1, c9))).setCell ⟨s, 1, none⟩ (slV (A10, row.length + 1, c10)) = W9 at H9 ⊢
    have a0 : W9.cell? ⟨s, 0, none⟩ = some (.slice A9 (vals.length + 1) c9) := H9.out.x2.cell 0
    have a1 : W9.cell? ⟨s, 1, none⟩ = some (.slice A10 (row.length + 1) c10) := H9.out.x2.cell 1
    have b0 : W9.cell? ⟨s + 1 + 1 + 1 + 1, 0, none⟩ = some (.int .i64 0) := H9.out.x6.cell 0
    have b1 : W9.cell? ⟨s + 1 + 1 + 1 + 1, 1, none⟩ = some (.bool false) := H9.out.x6.cell 1
    have b2 : W9.cell? ⟨s + 1 + 1 + 1 + 1, 2, none⟩ = some (.slice none 0 0) := H9.out.x6.cell 2
    have b3 : W9.cell? ⟨s + 1 + 1 + 1 + 1, 3, none⟩ = some (.slice none 0 0) := H9.out.x6.cell 3
    have d0 : W9.cell? ⟨s + 1 + 1, 0, none⟩ = some (.slice none 0 0) := H9.out.x4.cell 0
    have e0 : W9.frozen? ⟨s + 1 + 1, 0, none⟩ = false := H9.out.x4.free 0
    have d1 : W9.cell? ⟨s + 1 + 1, 1, none⟩ = some (.slice none 0 0) := H9.out.x4.cell 1
    have e1 : W9.frozen? ⟨s + 1 + 1, 1, none⟩ = false := H9.out.x4.free 1
    have f0 : W9.cell? ⟨s + 1 + 1 + 1, 0, none⟩ = some (.int .i64 0) := H9.out.x5.cell 0
    have g0 : W9.frozen? ⟨s + 1 + 1 + 1, 0, none⟩ = false := H9.out.x5.free 0
    have f1 : W9.cell? ⟨s + 1 + 1 + 1, 1, none⟩ = some (.bool false) := H9.out.x5.cell 1
    have g1 : W9.frozen? ⟨s + 1 + 1 + 1, 1, none⟩ = false := H9.out.x5.free 1
    have f2 : W9.cell? ⟨s + 1 + 1 + 1, 2, none⟩ = some (.slice none 0 0) := H9.out.x5.cell 2
    have g2 : W9.frozen? ⟨s + 1 + 1 + 1, 2, none⟩ = false := H9.out.x5.free 2
    have f3 : W9.cell? ⟨s + 1 + 1 + 1, 3, none⟩ = some (.slice none 0 0) := H9.out.x5.cell 3
    have g3 : W9.frozen? ⟨s + 1 + 1 + 1, 3, none⟩ = false := H9.out.x5.free 3
    go_upto_region 26 with fail
    go_region
    go_wp2_with fail
    refine bodyPost_ret (v := .tuple #[.agg #[.slice A9 (vals.length + 1) c9, .slice A10 (row.length + 1) c10], .agg #[.int .i64 0, .bool false, .slice none 0 0, .slice none 0 0]]) (by simp [results, Try.results39, go_sem, d0, d1, f0, f1, f2, f3]) rfl ?_
    obtain ⟨r1, r2, r3, r4⟩ := H9.out.fin (W1 := _) (fin_fr _ (.slice A9 (vals.length + 1) c9) (.slice A10 (row.length + 1) c10) (.int .i64 0) (.bool false) (.slice none 0 0) (.slice none 0 0))
    exact ⟨(A9, (vals.length + 1), c9), (A10, (row.length + 1), c10), .slice none 0 0, rfl, r1, r2, by rw [hs]; exact r3, by rw [hs]; exact r4⟩
end Go.Proofs.Ytmhnhfmkcipcpaa.LineDo

namespace Go.Proofs.Ytmhnhfmkcipcpaa.LineDo
open Go Go.RowKit Go.Deep Go.Proofs.Ytmhnhfmkcipcpaa.Hk Go.Proofs.Ytmhnhfmkcipcpaa.Heap Go.Proofs.Ytmhnhfmkcipcpaa.Stack Go.Proofs.Ytmhnhfmkcipcpaa.Seen Go.Proofs.Ytmhnhfmkcipcpaa.Lists Go.Proofs.Ytmhnhfmkcipcpaa.LnFn Go.Proofs.YtmhnhfmkcipcpaaW.PrintWords Go.Proofs.YtmhnhfmkcipcpaaW.PrintLast Go.Proofs.YtmhnhfmkcipcpaaW.PrintMore
def ld9.T : Bool × List (List Nat × List Nat) := (true, [([], []), ([], []), ([1], [1]), ([0, 2], [0, 2]), ([], []), ([4], [4]), ([5], [5]), ([3, 6, 3], [3, 6]), ([], []), ([], []), ([9], [9]), ([10], [10]), ([8, 11, 7], [8, 11]), ([7, 12], [7, 12]), ([13, 12, 0, 1, 2, 3, 4, 5, 6, 7, 8, 9, 10, 11, 12, 13], [13])])
def ld9.B : List Nat := [0, 0, 2, 7, 0, 16, 48, 127, 0, 0, 512, 1536, 4095, 8191, 16383]
theorem ld9.tab : rtab .any (opsOf Try.f39 9) = ld9.T := by kernel_rfl
theorem ld9.bits : waitsOk ld9.T.2 ld9.B = true := by kernel_rfl
set_option maxHeartbeats 16000000 in
set_option maxRecDepth 100000 in
theorem do1 (w : World) (VA RA : Option Addr) (VC RC : Nat) (vals row : List Int) (o key val : Int) (at0 : Int) (k0 : Nat) (hV : Lies w (VA, vals.length, VC) vals) (hR : Lies w (RA, row.length, RC) row) (hl : vals.length ≤ 1099511627776 ∧ row.length ≤ 1099511627776) (hat : spec_lineAt.f k0 row val = some at0) :
    Calls Try.prog 39 #[.agg #[.slice VA vals.length VC, .slice RA row.length RC], .agg #[.int .i64 o, .int .i64 1, .int .i64 key, .int .i64 val]] w fun e w' => ∃ vp rp kv, e = .returned (.tuple #[.agg #[slV vp, slV rp], .agg #[.int .i64 0, .bool false, kv, .slice none 0 0]]) ∧
      Lies w' vp (vals ++ [key]) ∧ Lies w' rp ((vals.length : Int) :: row) ∧ Ro w' w.heap.size kv ([]) ∧ Below w.heap.size w w' := by
  have H0 : Hid (Dn w.heap.size w (((((w.alloc (.cells #[.slice VA vals.length VC, .slice RA row.length RC] 61)).alloc (.cells #[.int .i64 o, .int .i64 1, .int .i64 key, .int .i64 val] 27)).alloc (.cells NL 61)).alloc (.cells (F4k (.slice none 0 0)) 34)).alloc (.cells (F4k (.slice none 0 0)) 34)) (VA, vals.length, VC) (RA, row.length, RC) vals row (.slice none 0 0) []) := hid (Dn.start #[.int .i64 o, .int .i64 1, .int .i64 key, .int .i64 val] hV hR)
  have HS0 : Hid (Blk (((((w.alloc (.cells #[.slice VA vals.length VC, .slice RA row.length RC] 61)).alloc (.cells #[.int .i64 o, .int .i64 1, .int .i64 key, .int .i64 val] 27)).alloc (.cells NL 61)).alloc (.cells (F4k (.slice none 0 0)) 34)).alloc (.cells (F4k (.slice none 0 0)) 34)) (w.heap.size + 1) #[.int .i64 o, .int .i64 1, .int .i64 key, .int .i64 val] 27) := by
    have h_ := Blk.new (w.alloc (.cells #[.slice VA vals.length VC, .slice RA row.length RC] 61)) #[.int .i64 o, .int .i64 1, .int .i64 key, .int .i64 val] 27
    rw [Hk.alloc_size] at h_
    exact hid (((h_.alloc _).alloc _).alloc _)
  have HL := hid hl
  have HAT := hid hat
  clear hV hR hl hat
  go_enter Try.func39, Try.ntmps39
  go_upto_region 2 with fail
  change Code.wp _ _ _ _ (((((w.alloc (.cells #[.slice VA vals.length VC, .slice RA row.length RC] 61)).alloc (.cells #[.int .i64 o, .int .i64 1, .int .i64 key, .int .i64 val] 27)).alloc (.cells NL 61)).alloc (.cells (F4k (.slice none 0 0)) 34)).alloc (.cells (F4k (.slice none 0 0)) 34))
  generalize (((((w.alloc (.cells #[.slice VA vals.length VC, .slice RA row.length RC] 61)).alloc (.cells #[.int .i64 o, .int .i64 1, .int .i64 key, .int .i64 val] 27)).alloc (.cells NL 61)).alloc (.cells (F4k (.slice none 0 0)) 34)).alloc (.cells (F4k (.slice none 0 0)) 34)) = W0 at H0 HS0 ⊢
  obtain ⟨s, hs⟩ : ∃ s, w.heap.size = s := ⟨_, rfl⟩
  rw [hs] at H0 HS0 ⊢
  have c1 : W0.cell? ⟨s, 1, none⟩ = some (.slice RA row.length RC) := H0.out.x2.cell 1
  have k3 : W0.cell? ⟨s + 1, 3, none⟩ = some (.int .i64 val) := HS0.out.cell 3
  go_upto_region 3 with ((go_at_call 67; refine (spec_lineAt.calls k0 RA RC row val at0 W0 H0.out.lr.cells H0.out.lr.cap HAT.out).mono ?_; rintro e w' ⟨rfl, ⟨n, rfl⟩⟩))
  have H1 := hid (H0.out.drewN n)
  have HS1 : Hid (Blk (W0.drewN n) (s + 1) #[.int .i64 o, .int .i64 1, .int .i64 key, .int .i64 val] 27) := hid (HS0.out.drewN n)
  clear H0 HS0 c1 k3
  generalize W0.drewN n = W at H1 HS1 ⊢
  have k1 : W.cell? ⟨s + 1, 1, none⟩ = some (.int .i64 1) := HS1.out.cell 1
  go_upto_region 9 with fail
  clear k1
  have H3 := hid (H1.out.drewN 1)
  have HS3 : Hid (Blk W.drew (s + 1) #[.int .i64 o, .int .i64 1, .int .i64 key, .int .i64 val] 27) := hid HS1.out
  change Hid (Dn s w W.drew _ _ _ _ _ _) at H3
  have x0 : W.cell? ⟨s, 0, none⟩ = some (.slice VA vals.length VC) := H1.out.x2.cell 0
  have x2 : W.cell? ⟨s + 1, 2, none⟩ = some (.int .i64 key) := HS1.out.cell 2
  clear H1 HS1
  refine start_ (n := 15) (S := fun w' => w'.cell? ⟨s, 0, none⟩ = some (.slice VA vals.length VC) ∧ w'.cell? ⟨s + 1, 2, none⟩ = some (.int .i64 key)) (ds := [12, 14]) #[false, false, false, false, false, false, false, false, false, false, false, false, false, false, false] (by kernel_rfl) rfl rfl ⟨x0, x2⟩ (fun hHeld => ?_)
  refine with_tabW ld9.tab ld9.bits (fun HT_ HW_ => ?_)
  clear x0 x2
  generalize W.drew = Wd at H3 HS3 hHeld ⊢
  have HC3 := hid H3.out.lv.cells
  refine pure_ (i := 1) (N := some 38) (v := ?_) (a' := ?_) #[false, true, false, false, false, false, false, false, false, false, false, false, false, false, false] rfl rfl (any_of HT_.out (by kernel_rfl)) (fun _ _ _ h => h) (Or.inl ⟨by rfl, ?_⟩) ?_ ?_
  rotate_left
  · intro w'
    go_simp
    with_reducible rfl
  rotate_left
  · simp only [Act.put, List.setIfInBounds_toArray, List.set_cons_zero, List.set_cons_succ]
    rfl
  refine take_ (i := 2) (N := some 39) (v := ?_) (a' := ?_) #[false, true, true, false, false, false, false, false, false, false, false, false, false, false, false] rfl rfl (take_ofW HT_.out HW_.out (by kernel_rfl)) (fun _ _ _ h => h) (Or.inl ⟨by rfl, ?_⟩) hHeld ?_ ?_
  rotate_left
  · intro w' s0
    obtain ⟨s1, s2⟩ := s0
    go_simp
    with_reducible rfl
  rotate_left
  · simp only [Act.put, List.setIfInBounds_toArray, List.set_cons_zero, List.set_cons_succ]
    rfl
  refine pure_ (i := 4) (N := some 41) (v := ?_) (a' := ?_) #[false, true, true, false, true, false, false, false, false, false, false, false, false, false, false] rfl rfl (any_of HT_.out (by kernel_rfl)) (fun _ _ _ h => h) (Or.inl ⟨by rfl, ?_⟩) ?_ ?_
  rotate_left
  · intro w'
    go_simp
    with_reducible rfl
  rotate_left
  · simp only [Act.put, List.setIfInBounds_toArray, List.set_cons_zero, List.set_cons_succ]
    rfl
  refine take_ (i := 5) (N := some 42) (v := ?_) (a' := ?_) #[false, true, true, false, true, true, false, false, false, false, false, false, false, false, false] rfl rfl (take_ofW HT_.out HW_.out (by kernel_rfl)) (fun _ _ _ h => h) (Or.inl ⟨by rfl, ?_⟩) hHeld ?_ ?_
  rotate_left
  · intro w' s0
    obtain ⟨s1, s2⟩ := s0
    go_simp
    with_reducible rfl
  rotate_left
  · simp only [Act.put, List.setIfInBounds_toArray, List.set_cons_zero, List.set_cons_succ]
    rfl
  refine pure_ (i := 8) (N := some 45) (v := ?_) (a' := ?_) #[false, true, true, false, true, true, false, false, true, false, false, false, false, false, false] rfl rfl (any_of HT_.out (by kernel_rfl)) (fun _ _ _ h => h) (Or.inl ⟨by rfl, ?_⟩) ?_ ?_
  rotate_left
  · intro w'
    go_simp
    with_reducible rfl
  rotate_left
  · simp only [Act.put, List.setIfInBounds_toArray, List.set_cons_zero, List.set_cons_succ]
    rfl
  refine pure_ (i := 9) (N := some 46) (v := ?_) (a' := ?_) #[false, true, true, false, true, true, false, false, true, true, false, false, false, false, false] rfl rfl (any_of HT_.out (by kernel_rfl)) (fun _ _ _ h => h) (Or.inl ⟨by rfl, ?_⟩) ?_ ?_
  rotate_left
  · intro w'
    go_simp
    with_reducible rfl
  rotate_left
  · simp only [Act.put, List.setIfInBounds_toArray, List.set_cons_zero, List.set_cons_succ]
    rfl
  refine take_ (i := 10) (N := some 47) (v := ?_) (a' := ?_) #[false, true, true, false, true, true, false, false, true, true, true, false, false, false, false] rfl rfl (take_ofW HT_.out HW_.out (by kernel_rfl)) (fun _ _ _ h => h) (Or.inl ⟨by rfl, ?_⟩) hHeld ?_ ?_
  rotate_left
  · intro w' s0
    obtain ⟨s1, s2⟩ := s0
    go_simp
    with_reducible rfl
  rotate_left
  · simp only [Act.put, List.setIfInBounds_toArray, List.set_cons_zero, List.set_cons_succ]
    rfl
  refine pure_ (i := 11) (N := some 48) (v := ?_) (a' := ?_) #[false, true, true, false, true, true, false, false, true, true, true, true, false, false, false] rfl rfl (any_of HT_.out (by kernel_rfl)) (fun _ _ _ h => h) (Or.inl ⟨by rfl, ?_⟩) ?_ ?_
  rotate_left
  · intro w'
    go_simp
    with_reducible rfl
  rotate_left
  · simp only [Act.put, List.setIfInBounds_toArray, List.set_cons_zero, List.set_cons_succ]
    rfl
  have HB0 : Hid (Below Wd.heap.size Wd Wd) := hid (Below.refl _ _)
  refine two_ (i := 0) (j := 6) (Ni := some 37) (Nj := some 43) #[true, true, true, false, true, true, false, false, true, true, true, true, false, false, false] #[false, true, true, false, true, true, true, false, true, true, true, true, false, false, false] rfl rfl rfl rfl (two_of HT_.out (by kernel_rfl)) (by decide) (by decide) (fun K_ hK => ?_) (fun K_ hK => ?_)
  · refine value_ (w1 := ?_) (v := ?_) (by rfl) rfl ?_ ?_
    rotate_left 2
    · go_simp
      constructor
      · rfl
      · rfl
    refine hK.out _ _ ⟨(H3.out.later (HB0.out.alloc HB0.out.size _)).x2.cell 0, (HS3.out.below (HB0.out.alloc HB0.out.size _) HS3.out.lt).cell 2⟩ (fun hHeld => ?_)
    clear hK K_
    have HB1' : Hid (Below Wd.heap.size Wd (Wd.alloc (.cells #[] 3)) ∧ Wd.heap.size < (Wd.alloc (.cells #[] 3)).heap.size) := hid ⟨HB0.out.alloc HB0.out.size _, by simp⟩
    have HE1 : Hid (Ro (Wd.alloc (.cells #[] 3)) Wd.heap.size (.slice (some ⟨Wd.heap.size, 0, none⟩) 0 0) []) := hid (ro_lit HB0.out.size)
    generalize Wd.alloc (.cells #[] 3) = W1 at HB1' HE1 hHeld ⊢
    refine norm_ (a' := ?_) ?_ ?_
    rotate_left
    · show Act.put _ (some 37) _ = _
      simp only [Act.put, List.setIfInBounds_toArray, List.set_cons_zero, List.set_cons_succ]
      rfl
    have HB1 := hid HB1'.out.1
    refine two_ (i := 3) (j := 6) (Ni := some 40) (Nj := some 43) #[true, true, true, true, true, true, false, false, true, true, true, true, false, false, false] #[true, true, true, false, true, true, true, false, true, true, true, true, false, false, false] rfl rfl rfl rfl (two_of HT_.out (by kernel_rfl)) (by decide) (by decide) (fun K_ hK => ?_) (fun K_ hK => ?_)
    · refine Kd.R_append_rows_step (Kd.int .i64) (w0 := Wd) Wd.heap.size rfl (.tmp 37) (.tmp 39) 30 3 (.int .i64 0) 8 rfl Try.underlying30 Heap.info3 rfl (by decide) (by omega) (.slice (some ⟨Wd.heap.size, 0, none⟩) 0 0) [] vals VA vals.length VC (fun _ => True) (fun _ => False) rfl rfl HE1.out (Kd.C_below HC3.out HB1.out) (fun _ _ h => h) (fun _ h => h.elim) (fun _ _ => trivial) HB1.out HB1.out.size (by have h_ := HL.out; rw [List.length_nil]; omega) ?_
      intro v37 W2 ho hb hg hat
      obtain ⟨A7, c7, rfl⟩ := Kd.R_slice ho
      have HB2 := hid hb
      have HE2 : Hid (Ro W2 Wd.heap.size (.slice A7 ([] ++ vals).length c7) ([] ++ vals)) := hid ho
      clear ho hb hg hat
      refine hK.out _ _ ⟨(H3.out.later HB2.out).x2.cell 0, (HS3.out.below HB2.out HS3.out.lt).cell 2⟩ (fun hHeld => ?_)
      clear hK K_
      refine norm_ (a' := ?_) ?_ ?_
      rotate_left
      · show Act.put _ (some 40) _ = _
        simp only [Act.put, List.setIfInBounds_toArray, List.set_cons_zero, List.set_cons_succ]
        rfl
      refine one_ (i := 6) (N := some 43) #[true, true, true, true, true, true, true, false, true, true, true, true, false, false, false] rfl rfl (one_of HT_.out (by kernel_rfl)) (by decide) (fun K_ hK => ?_)
      refine value_ (w1 := ?_) (v := ?_) (by rfl) rfl ?_ ?_
      rotate_left 2
      · go_simp
        constructor
        · rfl
        · rfl
      refine hK.out _ _ ⟨(H3.out.later (HB2.out.alloc HB2.out.size _)).x2.cell 0, (HS3.out.below (HB2.out.alloc HB2.out.size _) HS3.out.lt).cell 2⟩ (fun hHeld => ?_)
      clear hK K_
      have HB3' : Hid (Below Wd.heap.size Wd (W2.alloc (.cells #[.int .i64 key] 3)) ∧ W2.heap.size < (W2.alloc (.cells #[.int .i64 key] 3)).heap.size) := hid ⟨HB2.out.alloc HB2.out.size _, by simp⟩
      have HK3 : Hid (Blk (W2.alloc (.cells #[.int .i64 key] 3)) W2.heap.size #[.int .i64 key] 3) := hid (Blk.new _ _ _)
      have HE3 : Hid (Ro (W2.alloc (.cells #[.int .i64 key] 3)) Wd.heap.size (.slice A7 ([] ++ vals).length c7) ([] ++ vals)) := hid (Kd.R_alloc HE2.out _)
      generalize W2.alloc (.cells #[.int .i64 key] 3) = W3 at HB3' HK3 HE3 hHeld ⊢
      refine norm_ (a' := ?_) ?_ ?_
      rotate_left
      · show Act.put _ (some 43) _ = _
        simp only [Act.put, List.setIfInBounds_toArray, List.set_cons_zero, List.set_cons_succ]
        rfl
      have HB3 := hid HB3'.out.1
      refine one_ (i := 7) (N := some 44) #[true, true, true, true, true, true, true, true, true, true, true, true, false, false, false] rfl rfl (one_of HT_.out (by kernel_rfl)) (by decide) (fun K_ hK => ?_)
      refine Row.append_int rfl (.tmp 40) (.tmp 43) 30 3 rfl Try.underlying30 Heap.info3 Wd.heap.size (.slice A7 ([] ++ vals).length c7) ([] ++ vals) key (fun _ => True) W3 rfl HE3.out ⟨W2.heap.size, 0, none⟩ 1 rfl (HK3.out.cell 0) (by have h_ := HL.out; rw [List.nil_append]; omega) HB3.out.size ?_
      intro v9 W8 ho hg hat
      obtain ⟨A9, c9, rfl⟩ := Kd.R_slice ho
      have HB9 : Hid (Below Wd.heap.size Wd W8) := hid (HB3.out.trans ((Fr.of_grown hg).below HB3.out.size (fun k hk => Kd.R_base HE3.out k hk.symm)))
      have HV9 : Hid (Lies W8 (A9, vals.length + 1, c9) (vals ++ [key])) := by
        have h_ := Lies.of ho
        have hl_ : ([] ++ vals ++ [key]).length = vals.length + 1 := by simp
        rw [hl_] at h_
        exact hid h_
      clear ho hg hat
      refine hK.out _ _ ⟨(H3.out.later HB9.out).x2.cell 0, (HS3.out.below HB9.out HS3.out.lt).cell 2⟩ (fun hHeld => ?_)
      clear hK K_
      refine norm_ (a' := ?_) ?_ ?_
      rotate_left
      · show Act.put _ (some 44) _ = _
        simp only [Act.put, List.setIfInBounds_toArray, List.set_cons_zero, List.set_cons_succ]
        rfl
      have H8 := hid (H3.out.later HB9.out)
      have HBF := hid HB9.out.size
      clear H3 HS3 HC3 HB9
      refine last_ (i := 12) (N := some 49) #[true, true, true, true, true, true, true, true, true, true, true, true, true, false, false] rfl rfl (one_of HT_.out (by kernel_rfl)) (by decide) (fun K_ hK => ?_)
      refine call_ (N := some 49) 69 #[.int .i64 (vals.length : Int), .pointer (some ⟨s, 0, none⟩)] (by rfl) rfl (by go_simp) ?_
      have HCall_ := front_any s W8 _ RA RC row (vals.length : Int) H8.out.x2 H8.out.lr HL.out.2
      refine HCall_.mono ?_
      clear HCall_
      rintro e W10 ⟨A10, c10, rfl, hO, hB⟩
      have H10 := hid (H8.out.later hB)
      have HV10 := hid (HV9.out.below hB)
      have HR10 : Hid (Lies W10 (A10, row.length + 1, c10) ((vals.length : Int) :: row)) := hid (Lies.of hO)
      clear hO hB H8 HV9
      refine ⟨_, rfl, ?_⟩
      refine hK.out _ _ ?_
      clear hK K_
      refine norm_ (a' := ?_) ?_ ?_
      rotate_left
      · show Act.put _ (some 49) _ = _
        simp only [Act.put, List.setIfInBounds_toArray, List.set_cons_zero, List.set_cons_succ]
        rfl
      refine pure_ (i := 13) (N := some 50) (v := ?_) (a' := ?_) #[true, true, true, true, true, true, true, true, true, true, true, true, true, true, false] rfl rfl (any_of HT_.out (by kernel_rfl)) (fun _ _ _ h => h) (Or.inl ⟨by rfl, ?_⟩) ?_ ?_
      rotate_left
      · intro w'
        go_simp
        with_reducible rfl
      rotate_left
      · simp only [Act.put, List.setIfInBounds_toArray, List.set_cons_zero, List.set_cons_succ]
        rfl
      have d4 : W10.cell? ⟨s, 0, none⟩ = some (.slice VA vals.length VC) := H10.out.x2.cell 0
      have f4 : W10.frozen? ⟨s, 0, none⟩ = false := H10.out.x2.free 0
      have d5 : W10.cell? ⟨s, 1, none⟩ = some (.slice RA row.length RC) := H10.out.x2.cell 1
      have f5 : W10.frozen? ⟨s, 1, none⟩ = false := H10.out.x2.free 1
      refine last_ (i := 14) (N := none) #[true, true, true, true, true, true, true, true, true, true, true, true, true, true, true] rfl rfl (one_of HT_.out (by kernel_rfl)) (by decide) (fun K_ hK => ?_)
      refine skip_ (w1 := ?_) (by rfl) rfl ?_ ?_
      rotate_left
      · go_simp
        rfl
      refine hK.out _ _ ?_
      clear hK K_
      refine done_ (done_of HT_.out (by kernel_rfl)) ?_
      clear HT_ HW_
      clear d4 f4 d5 f5
      have H9 := hid (H10.out.both HV10.out HR10.out)
      clear H10 HV10 HR10
      go_upto_region 26 with fail
      change Code.wp _ _ _ _ ((W10.setCell ⟨s, 0, none⟩ (slV (A9, vals.length + 1, c9))).setCell ⟨s, 1, none⟩ (slV (A10, row.length + 1, c10)))
      generalize (W10.setCell ⟨s, 0, none⟩ (slV (A9, vals.length + 1, c9))).setCell ⟨s, 1, none⟩ (slV (A10, row.length + 1, c10)) = W9 at H9 ⊢
      have a0 : W9.cell? ⟨s, 0, none⟩ = some (.slice A9 (vals.length + 1) c9) := H9.out.x2.cell 0
      have a1 : W9.cell? ⟨s, 1, none⟩ = some (.slice A10 (row.length + 1) c10) := H9.out.x2.cell 1
      have b0 : W9.cell? ⟨s + 1 + 1 + 1 + 1, 0, none⟩ = some (.int .i64 0) := H9.out.x6.cell 0
      have b1 : W9.cell? ⟨s + 1 + 1 + 1 + 1, 1, none⟩ = some (.bool false) := H9.out.x6.cell 1
      have b2 : W9.cell? ⟨s + 1 + 1 + 1 + 1, 2, none⟩ = some (.slice none 0 0) := H9.out.x6.cell 2
      have b3 : W9.cell? ⟨s + 1 + 1 + 1 + 1, 3, none⟩ = some (.slice none 0 0) := H9.out.x6.cell 3
      have d0 : W9.cell? ⟨s + 1 + 1, 0, none⟩ = some (.slice none 0 0) := H9.out.x4.cell 0
      have e0 : W9.frozen? ⟨s + 1 + 1, 0, none⟩ = false := H9.out.x4.free 0
      have d1 : W9.cell? ⟨s + 1 + 1, 1, none⟩ = some (.slice none 0 0) := H9.out.x4.cell 1
      have e1 : W9.frozen? ⟨s + 1 + 1, 1, none⟩ = false := H9.out.x4.free 1
      have f0 : W9.cell? ⟨s + 1 + 1 + 1, 0, none⟩ = some (.int .i64 0) := H9.out.x5.cell 0
      have g0 : W9.frozen? ⟨s + 1 + 1 + 1, 0, none⟩ = false := H9.out.x5.free 0
      have f1 : W9.cell? ⟨s + 1 + 1 + 1, 1, none⟩ = some (.bool false) := H9.out.x5.cell 1
      have g1 : W9.frozen? ⟨s + 1 + 1 + 1, 1, none⟩ = false := H9.out.x5.free 1
      have f2 : W9.cell? ⟨s + 1 + 1 + 1, 2, none⟩ = some (.slice none 0 0) := H9.out.x5.cell 2
      have g2 : W9.frozen? ⟨s + 1 + 1 + 1, 2, none⟩ = false := H9.out.x5.free 2
      have f3 : W9.cell? ⟨s + 1 + 1 + 1, 3, none⟩ = some (.slice none 0 0) := H9.out.x5.cell 3
      have g3 : W9.frozen? ⟨s + 1 + 1 + 1, 3, none⟩ = false := H9.out.x5.free 3
      go_upto_region 26 with fail
      go_region
      go_wp2_with fail
      refine bodyPost_ret (v := .tuple #[.agg #[.slice A9 (vals.length + 1) c9, .slice A10 (row.length + 1) c10], .agg #[.int .i64 0, .bool false, .slice none 0 0, .slice none 0 0]]) (by simp [results, Try.results39, go_sem, d0, d1, f0, f1, f2, f3]) rfl ?_
      obtain ⟨r1, r2, r3, r4⟩ := H9.out.fin (W1 := _) (fin_fr _ (.slice A9 (vals.length + 1) c9) (.slice A10 (row.length + 1) c10) (.int .i64 0) (.bool false) (.slice none 0 0) (.slice none 0 0))
      exact ⟨(A9, (vals.length + 1), c9), (A10, (row.length + 1), c10), .slice none 0 0, rfl, r1, r2, by rw [hs]; exact r3, by rw [hs]; exact r4⟩
    · refine value_ (w1 := ?_) (v := ?_) (by rfl) rfl ?_ ?_
      rotate_left 2
      · go_simp
        constructor
        · rfl
        · rfl
      refine hK.out _ _ ⟨(H3.out.later (HB1.out.alloc HB1.out.size _)).x2.cell 0, (HS3.out.below (HB1.out.alloc HB1.out.size _) HS3.out.lt).cell 2⟩ (fun hHeld => ?_)
      clear hK K_
      have HB2' : Hid (Below Wd.heap.size Wd (W1.alloc (.cells #[.int .i64 key] 3)) ∧ W1.heap.size < (W1.alloc (.cells #[.int .i64 key] 3)).heap.size) := hid ⟨HB1.out.alloc HB1.out.size _, by simp⟩
      have HK2 : Hid (Blk (W1.alloc (.cells #[.int .i64 key] 3)) W1.heap.size #[.int .i64 key] 3) := hid (Blk.new _ _ _)
      have HE2 : Hid (Ro (W1.alloc (.cells #[.int .i64 key] 3)) Wd.heap.size (.slice (some ⟨Wd.heap.size, 0, none⟩) 0 0) []) := hid (Kd.R_alloc HE1.out _)
      generalize W1.alloc (.cells #[.int .i64 key] 3) = W2 at HB2' HK2 HE2 hHeld ⊢
      refine norm_ (a' := ?_) ?_ ?_
      rotate_left
      · show Act.put _ (some 43) _ = _
        simp only [Act.put, List.setIfInBounds_toArray, List.set_cons_zero, List.set_cons_succ]
        rfl
      have HB2 := hid HB2'.out.1
      refine one_ (i := 3) (N := some 40) #[true, true, true, true, true, true, true, false, true, true, true, true, false, false, false] rfl rfl (one_of HT_.out (by kernel_rfl)) (by decide) (fun K_ hK => ?_)
      refine Kd.R_append_rows_step (Kd.int .i64) (w0 := Wd) Wd.heap.size rfl (.tmp 37) (.tmp 39) 30 3 (.int .i64 0) 8 rfl Try.underlying30 Heap.info3 rfl (by decide) (by omega) (.slice (some ⟨Wd.heap.size, 0, none⟩) 0 0) [] vals VA vals.length VC (fun _ => True) (fun _ => False) rfl rfl HE2.out (Kd.C_below HC3.out HB2.out) (fun _ _ h => h) (fun _ h => h.elim) (fun _ _ => trivial) HB2.out HB2.out.size (by have h_ := HL.out; rw [List.length_nil]; omega) ?_
      intro v37 W3 ho hb hg hat
      obtain ⟨A7, c7, rfl⟩ := Kd.R_slice ho
      have HB3 := hid hb
      have HE3 : Hid (Ro W3 Wd.heap.size (.slice A7 ([] ++ vals).length c7) ([] ++ vals)) := hid ho
      have HK3 : Hid (Blk W3 W1.heap.size #[.int .i64 key] 3) := hid (HK2.out.fr (Fr.of_grown hg) (fun e => by have e2 : W1.heap.size = Wd.heap.size := (by simpa [Value.ownBlock] using e); have := HB1'.out.2; omega))
      clear ho hb hg hat
      refine hK.out _ _ ⟨(H3.out.later HB3.out).x2.cell 0, (HS3.out.below HB3.out HS3.out.lt).cell 2⟩ (fun hHeld => ?_)
      clear hK K_
      refine norm_ (a' := ?_) ?_ ?_
      rotate_left
      · show Act.put _ (some 40) _ = _
        simp only [Act.put, List.setIfInBounds_toArray, List.set_cons_zero, List.set_cons_succ]
        rfl
      refine one_ (i := 7) (N := some 44) #[true, true, true, true, true, true, true, true, true, true, true, true, false, false, false] rfl rfl (one_of HT_.out (by kernel_rfl)) (by decide) (fun K_ hK => ?_)
      refine Row.append_int rfl (.tmp 40) (.tmp 43) 30 3 rfl Try.underlying30 Heap.info3 Wd.heap.size (.slice A7 ([] ++ vals).length c7) ([] ++ vals) key (fun _ => True) W3 rfl HE3.out ⟨W1.heap.size, 0, none⟩ 1 rfl (HK3.out.cell 0) (by have h_ := HL.out; rw [List.nil_append]; omega) HB3.out.size ?_
      intro v9 W8 ho hg hat
      obtain ⟨A9, c9, rfl⟩ := Kd.R_slice ho
      have HB9 : Hid (Below Wd.heap.size Wd W8) := hid (HB3.out.trans ((Fr.of_grown hg).below HB3.out.size (fun k hk => Kd.R_base HE3.out k hk.symm)))
      have HV9 : Hid (Lies W8 (A9, vals.length + 1, c9) (vals ++ [key])) := by
        have h_ := Lies.of ho
        have hl_ : ([] ++ vals ++ [key]).length = vals.length + 1 := by simp
        rw [hl_] at h_
        exact hid h_
      clear ho hg hat
      refine hK.out _ _ ⟨(H3.out.later HB9.out).x2.cell 0, (HS3.out.below HB9.out HS3.out.lt).cell 2⟩ (fun hHeld => ?_)
      clear hK K_
      refine norm_ (a' := ?_) ?_ ?_
      rotate_left
      · show Act.put _ (some 44) _ = _
        simp only [Act.put, List.setIfInBounds_toArray, List.set_cons_zero, List.set_cons_succ]
        rfl
      have H8 := hid (H3.out.later HB9.out)
      have HBF := hid HB9.out.size
      clear H3 HS3 HC3 HB9
      refine last_ (i := 12) (N := some 49) #[true, true, true, true, true, true, true, true, true, true, true, true, true, false, false] rfl rfl (one_of HT_.out (by kernel_rfl)) (by decide) (fun K_ hK => ?_)
      refine call_ (N := some 49) 69 #[.int .i64 (vals.length : Int), .pointer (some ⟨s, 0, none⟩)] (by rfl) rfl (by go_simp) ?_
      have HCall_ := front_any s W8 _ RA RC row (vals.length : Int) H8.out.x2 H8.out.lr HL.out.2
      refine HCall_.mono ?_
      clear HCall_
      rintro e W10 ⟨A10, c10, rfl, hO, hB⟩
      have H10 := hid (H8.out.later hB)
      have HV10 := hid (HV9.out.below hB)
      have HR10 : Hid (Lies W10 (A10, row.length + 1, c10) ((vals.length : Int) :: row)) := hid (Lies.of hO)
      clear hO hB H8 HV9
      refine ⟨_, rfl, ?_⟩
      refine hK.out _ _ ?_
      clear hK K_
      refine norm_ (a' := ?_) ?_ ?_
      rotate_left
      · show Act.put _ (some 49) _ = _
        simp only [Act.put, List.setIfInBounds_toArray, List.set_cons_zero, List.set_cons_succ]
        rfl
      refine pure_ (i := 13) (N := some 50) (v := ?_) (a' := ?_) #[true, true, true, true, true, true, true, true, true, true, true, true, true, true, false] rfl rfl (any_of HT_.out (by kernel_rfl)) (fun _ _ _ h => h) (Or.inl ⟨by rfl, ?_⟩) ?_ ?_
      rotate_left
      · intro w'
        go_simp
        with_reducible rfl
      rotate_left
      · simp only [Act.put, List.setIfInBounds_toArray, List.set_cons_zero, List.set_cons_succ]
        rfl
      have d4 : W10.cell? ⟨s, 0, none⟩ = some (.slice VA vals.length VC) := H10.out.x2.cell 0
      have f4 : W10.frozen? ⟨s, 0, none⟩ = false := H10.out.x2.free 0
      have d5 : W10.cell? ⟨s, 1, none⟩ = some (.slice RA row.length RC) := H10.out.x2.cell 1
      have f5 : W10.frozen? ⟨s, 1, none⟩ = false := H10.out.x2.free 1
      refine last_ (i := 14) (N := none) #[true, true, true, true, true, true, true, true, true, true, true, true, true, true, true] rfl rfl (one_of HT_.out (by kernel_rfl)) (by decide) (fun K_ hK => ?_)
      refine skip_ (w1 := ?_) (by rfl) rfl ?_ ?_
      rotate_left
      · go_simp
        rfl
      refine hK.out _ _ ?_
      clear hK K_
      refine done_ (done_of HT_.out (by kernel_rfl)) ?_
      clear HT_ HW_
      clear d4 f4 d5 f5
      have H9 := hid (H10.out.both HV10.out HR10.out)
      clear H10 HV10 HR10
      go_upto_region 26 with fail
      change Code.wp _ _ _ _ ((W10.setCell ⟨s, 0, none⟩ (slV (A9, vals.length + 1, c9))).setCell ⟨s, 1, none⟩ (slV (A10, row.length + 1, c10)))
      generalize (W10.setCell ⟨s, 0, none⟩ (slV (A9, vals.length + 1, c9))).setCell ⟨s, 1, none⟩ (slV (A10, row.length + 1, c10)) = W9 at H9 ⊢
      have a0 : W9.cell? ⟨s, 0, none⟩ = some (.slice A9 (vals.length + 1) c9) := H9.out.x2.cell 0
      have a1 : W9.cell? ⟨s, 1, none⟩ = some (.slice A10 (row.length + 1) c10) := H9.out.x2.cell 1
      have b0 : W9.cell? ⟨s + 1 + 1 + 1 + 1, 0, none⟩ = some (.int .i64 0) := H9.out.x6.cell 0
      have b1 : W9.cell? ⟨s + 1 + 1 + 1 + 1, 1, none⟩ = some (.bool false) := H9.out.x6.cell 1
      have b2 : W9.cell? ⟨s + 1 + 1 + 1 + 1, 2, none⟩ = some (.slice none 0 0) := H9.out.x6.cell 2
      have b3 : W9.cell? ⟨s + 1 + 1 + 1 + 1, 3, none⟩ = some (.slice none 0 0) := H9.out.x6.cell 3
      have d0 : W9.cell? ⟨s + 1 + 1, 0, none⟩ = some (.slice none 0 0) := H9.out.x4.cell 0
      have e0 : W9.frozen? ⟨s + 1 + 1, 0, none⟩ = false := H9.out.x4.free 0
      have d1 : W9.cell? ⟨s + 1 + 1, 1, none⟩ = some (.slice none 0 0) := H9.out.x4.cell 1
      have e1 : W9.frozen? ⟨s + 1 + 1, 1, none⟩ = false := H9.out.x4.free 1
      have f0 : W9.cell? ⟨s + 1 + 1 + 1, 0, none⟩ = some (.int .i64 0) := H9.out.x5.cell 0
      have g0 : W9.frozen? ⟨s + 1 + 1 + 1, 0, none⟩ = false := H9.out.x5.free 0
      have f1 : W9.cell? ⟨s + 1 + 1 + 1, 1, none⟩ = some (.bool false) := H9.out.x5.cell 1
      have g1 : W9.frozen? ⟨s + 1 + 1 + 1, 1, none⟩ = false := H9.out.x5.free 1
      have f2 : W9.cell? ⟨s + 1 + 1 + 1, 2, none⟩ = some (.slice none 0 0) := H9.out.x5.cell 2
      have g2 : W9.frozen? ⟨s + 1 + 1 + 1, 2, none⟩ = false := H9.out.x5.free 2
      have f3 : W9.cell? ⟨s + 1 + 1 + 1, 3, none⟩ = some (.slice none 0 0) := H9.out.x5.cell 3
      have g3 : W9.frozen? ⟨s + 1 + 1 + 1, 3, none⟩ = false := H9.out.x5.free 3
      go_upto_region 26 with fail
      go_region
      go_wp2_with fail
      refine bodyPost_ret (v := .tuple #[.agg #[.slice A9 (vals.length + 1) c9, .slice A10 (row.length + 1) c10], .agg #[.int .i64 0, .bool false, .slice none 0 0, .slice none 0 0]]) (by simp [results, Try.results39, go_sem, d0, d1, f0, f1, f2, f3]) rfl ?_
      obtain ⟨r1, r2, r3, r4⟩ := H9.out.fin (W1 := _) (fin_fr _ (.slice A9 (vals.length + 1) c9) (.slice A10 (row.length + 1) c10) (.int .i64 0) (.bool false) (.slice none 0 0) (.slice none 0 0))
      exact ⟨(A9, (vals.length + 1), c9), (A10, (row.length + 1), c10), .slice none 0 0, rfl, r1, r2, by rw [hs]; exact r3, by rw [hs]; exact r4⟩
  · refine value_ (w1 := ?_) (v := ?_) (by rfl) rfl ?_ ?_
    rotate_left 2
    · go_simp
      constructor
      · rfl
      · rfl
    refine hK.out _ _ ⟨(H3.out.later (HB0.out.alloc HB0.out.size _)).x2.cell 0, (HS3.out.below (HB0.out.alloc HB0.out.size _) HS3.out.lt).cell 2⟩ (fun hHeld => ?_)
    clear hK K_
    have HB1' : Hid (Below Wd.heap.size Wd (Wd.alloc (.cells #[.int .i64 key] 3)) ∧ Wd.heap.size < (Wd.alloc (.cells #[.int .i64 key] 3)).heap.size) := hid ⟨HB0.out.alloc HB0.out.size _, by simp⟩
    have HK1 : Hid (Blk (Wd.alloc (.cells #[.int .i64 key] 3)) Wd.heap.size #[.int .i64 key] 3) := hid (Blk.new _ _ _)
    generalize Wd.alloc (.cells #[.int .i64 key] 3) = W1 at HB1' HK1 hHeld ⊢
    refine norm_ (a' := ?_) ?_ ?_
    rotate_left
    · show Act.put _ (some 43) _ = _
      simp only [Act.put, List.setIfInBounds_toArray, List.set_cons_zero, List.set_cons_succ]
      rfl
    have HB1 := hid HB1'.out.1
    refine one_ (i := 0) (N := some 37) #[true, true, true, false, true, true, true, false, true, true, true, true, false, false, false] rfl rfl (one_of HT_.out (by kernel_rfl)) (by decide) (fun K_ hK => ?_)
    refine value_ (w1 := ?_) (v := ?_) (by rfl) rfl ?_ ?_
    rotate_left 2
    · go_simp
      constructor
      · rfl
      · rfl
    refine hK.out _ _ ⟨(H3.out.later (HB1.out.alloc HB1.out.size _)).x2.cell 0, (HS3.out.below (HB1.out.alloc HB1.out.size _) HS3.out.lt).cell 2⟩ (fun hHeld => ?_)
    clear hK K_
    have HB2' : Hid (Below Wd.heap.size Wd (W1.alloc (.cells #[] 3)) ∧ W1.heap.size < (W1.alloc (.cells #[] 3)).heap.size) := hid ⟨HB1.out.alloc HB1.out.size _, by simp⟩
    have HE2 : Hid (Ro (W1.alloc (.cells #[] 3)) Wd.heap.size (.slice (some ⟨W1.heap.size, 0, none⟩) 0 0) []) := hid (ro_lit HB1.out.size)
    have HK2 : Hid (Blk (W1.alloc (.cells #[] 3)) Wd.heap.size #[.int .i64 key] 3) := hid (HK1.out.alloc _)
    generalize W1.alloc (.cells #[] 3) = W2 at HB2' HE2 HK2 hHeld ⊢
    refine norm_ (a' := ?_) ?_ ?_
    rotate_left
    · show Act.put _ (some 37) _ = _
      simp only [Act.put, List.setIfInBounds_toArray, List.set_cons_zero, List.set_cons_succ]
      rfl
    have HB2 := hid HB2'.out.1
    refine one_ (i := 3) (N := some 40) #[true, true, true, true, true, true, true, false, true, true, true, true, false, false, false] rfl rfl (one_of HT_.out (by kernel_rfl)) (by decide) (fun K_ hK => ?_)
    refine Kd.R_append_rows_step (Kd.int .i64) (w0 := Wd) Wd.heap.size rfl (.tmp 37) (.tmp 39) 30 3 (.int .i64 0) 8 rfl Try.underlying30 Heap.info3 rfl (by decide) (by omega) (.slice (some ⟨W1.heap.size, 0, none⟩) 0 0) [] vals VA vals.length VC (fun _ => True) (fun _ => False) rfl rfl HE2.out (Kd.C_below HC3.out HB2.out) (fun _ _ h => h) (fun _ h => h.elim) (fun _ _ => trivial) HB2.out HB2.out.size (by have h_ := HL.out; rw [List.length_nil]; omega) ?_
    intro v37 W3 ho hb hg hat
    obtain ⟨A7, c7, rfl⟩ := Kd.R_slice ho
    have HB3 := hid hb
    have HE3 : Hid (Ro W3 Wd.heap.size (.slice A7 ([] ++ vals).length c7) ([] ++ vals)) := hid ho
    have HK3 : Hid (Blk W3 Wd.heap.size #[.int .i64 key] 3) := hid (HK2.out.fr (Fr.of_grown hg) (fun e => by have e2 : Wd.heap.size = W1.heap.size := (by simpa [Value.ownBlock] using e); have := HB1'.out.2; omega))
    clear ho hb hg hat
    refine hK.out _ _ ⟨(H3.out.later HB3.out).x2.cell 0, (HS3.out.below HB3.out HS3.out.lt).cell 2⟩ (fun hHeld => ?_)
    clear hK K_
    refine norm_ (a' := ?_) ?_ ?_
    rotate_left
    · show Act.put _ (some 40) _ = _
      simp only [Act.put, List.setIfInBounds_toArray, List.set_cons_zero, List.set_cons_succ]
      rfl
    refine one_ (i := 7) (N := some 44) #[true, true, true, true, true, true, true, true, true, true, true, true, false, false, false] rfl rfl (one_of HT_.out (by kernel_rfl)) (by decide) (fun K_ hK => ?_)
    refine Row.append_int rfl (.tmp 40) (.tmp 43) 30 3 rfl Try.underlying30 Heap.info3 Wd.heap.size (.slice A7 ([] ++ vals).length c7) ([] ++ vals) key (fun _ => True) W3 rfl HE3.out ⟨Wd.heap.size, 0, none⟩ 1 rfl (HK3.out.cell 0) (by have h_ := HL.out; rw [List.nil_append]; omega) HB3.out.size ?_
    intro v9 W8 ho hg hat
    obtain ⟨A9, c9, rfl⟩ := Kd.R_slice ho
    have HB9 : Hid (Below Wd.heap.size Wd W8) := hid (HB3.out.trans ((Fr.of_grown hg).below HB3.out.size (fun k hk => Kd.R_base HE3.out k hk.symm)))
    have HV9 : Hid (Lies W8 (A9, vals.length + 1, c9) (vals ++ [key])) := by
      have h_ := Lies.of ho
      have hl_ : ([] ++ vals ++ [key]).length = vals.length + 1 := by simp
      rw [hl_] at h_
      exact hid h_
    clear ho hg hat
    refine hK.out _ _ ⟨(H3.out.later HB9.out).x2.cell 0, (HS3.out.below HB9.out HS3.out.lt).cell 2⟩ (fun hHeld => ?_)
    clear hK K_
    refine norm_ (a' := ?_) ?_ ?_
    rotate_left
    · show Act.put _ (some 44) _ = _
      simp only [Act.put, List.setIfInBounds_toArray, List.set_cons_zero, List.set_cons_succ]
      rfl
    have H8 := hid (H3.out.later HB9.out)
    have HBF := hid HB9.out.size
    clear H3 HS3 HC3 HB9
    refine last_ (i := 12) (N := some 49) #[true, true, true, true, true, true, true, true, true, true, true, true, true, false, false] rfl rfl (one_of HT_.out (by kernel_rfl)) (by decide) (fun K_ hK => ?_)
    refine call_ (N := some 49) 69 #[.int .i64 (vals.length : Int), .pointer (some ⟨s, 0, none⟩)] (by rfl) rfl (by go_simp) ?_
    have HCall_ := front_any s W8 _ RA RC row (vals.length : Int) H8.out.x2 H8.out.lr HL.out.2
    refine HCall_.mono ?_
    clear HCall_
    rintro e W10 ⟨A10, c10, rfl, hO, hB⟩
    have H10 := hid (H8.out.later hB)
    have HV10 := hid (HV9.out.below hB)
    have HR10 : Hid (Lies W10 (A10, row.length + 1, c10) ((vals.length : Int) :: row)) := hid (Lies.of hO)
    clear hO hB H8 HV9
    refine ⟨_, rfl, ?_⟩
    refine hK.out _ _ ?_
    clear hK K_
    refine norm_ (a' := ?_) ?_ ?_
    rotate_left
    · show Act.put _ (some 49) _ = _
      simp only [Act.put, List.setIfInBounds_toArray, List.set_cons_zero, List.set_cons_succ]
      rfl
    refine pure_ (i := 13) (N := some 50) (v := ?_) (a' := ?_) #[true, true, true, true, true, true, true, true, true, true, true, true, true, true, false] rfl rfl (any_of HT_.out (by kernel_rfl)) (fun _ _ _ h => h) (Or.inl ⟨by rfl, ?_⟩) ?_ ?_
    rotate_left
    · intro w'
      go_simp
      with_reducible rfl
    rotate_left
    · simp only [Act.put, List.setIfInBounds_toArray, List.set_cons_zero, List.set_cons_succ]
      rfl
    have d4 : W10.cell? ⟨s, 0, none⟩ = some (.slice VA vals.length VC) := H10.out.x2.cell 0
    have f4 : W10.frozen? ⟨s, 0, none⟩ = false := H10.out.x2.free 0
    have d5 : W10.cell? ⟨s, 1, none⟩ = some (.slice RA row.length RC) := H10.out.x2.cell 1
    have f5 : W10.frozen? ⟨s, 1, none⟩ = false := H10.out.x2.free 1
    refine last_ (i := 14) (N := none) #[true, true, true, true, true, true, true, true, true, true, true, true, true, true, true] rfl rfl (one_of HT_.out (by kernel_rfl)) (by decide) (fun K_ hK => ?_)
    refine skip_ (w1 := ?_) (by rfl) rfl ?_ ?_
    rotate_left
    · go_simp
      rfl
    refine hK.out _ _ ?_
    clear hK K_
    refine done_ (done_of HT_.out (by kernel_rfl)) ?_
    clear HT_ HW_
    clear d4 f4 d5 f5
    have H9 := hid (H10.out.both HV10.out HR10.out)
    clear H10 HV10 HR10
    go_upto_region 26 with fail
    change Code.wp _ _ _ _ ((W10.setCell ⟨s, 0, none⟩ (slV (A9, vals.length + 1, c9))).setCell ⟨s, 1, none⟩ (slV (A10, row.length + 1, c10)))
    generalize (W10.setCell ⟨s, 0, none⟩ (slV (A9, vals.length + 1, c9))).setCell ⟨s, 1, none⟩ (slV (A10, row.length + 1, c10)) = W9 at H9 ⊢
    have a0 : W9.cell? ⟨s, 0, none⟩ = some (.slice A9 (vals.length + 1) c9) := H9.out.x2.cell 0
    have a1 : W9.cell? ⟨s, 1, none⟩ = some (.slice A10 (row.length + 1) c10) := H9.out.x2.cell 1
    have b0 : W9.cell? ⟨s + 1 + 1 + 1 + 1, 0, none⟩ = some (.int .i64 0) := H9.out.x6.cell 0
    have b1 : W9.cell? ⟨s + 1 + 1 + 1 + 1, 1, none⟩ = some (.bool false) := H9.out.x6.cell 1
    have b2 : W9.cell? ⟨s + 1 + 1 + 1 + 1, 2, none⟩ = some (.slice none 0 0) := H9.out.x6.cell 2
    have b3 : W9.cell? ⟨s + 1 + 1 + 1 + 1, 3, none⟩ = some (.slice none 0 0) := H9.out.x6.cell 3
    have d0 : W9.cell? ⟨s + 1 + 1, 0, none⟩ = some (.slice none 0 0) := H9.out.x4.cell 0
    have e0 : W9.frozen? ⟨s + 1 + 1, 0, none⟩ = false := H9.out.x4.free 0
    have d1 : W9.cell? ⟨s + 1 + 1, 1, none⟩ = some (.slice none 0 0) := H9.out.x4.cell 1
    have e1 : W9.frozen? ⟨s + 1 + 1, 1, none⟩ = false := H9.out.x4.free 1
    have f0 : W9.cell? ⟨s + 1 + 1 + 1, 0, none⟩ = some (.int .i64 0) := H9.out.x5.cell 0
    have g0 : W9.frozen? ⟨s + 1 + 1 + 1, 0, none⟩ = false := H9.out.x5.free 0
    have f1 : W9.cell? ⟨s + 1 + 1 + 1, 1, none⟩ = some (.bool false) := H9.out.x5.cell 1
    have g1 : W9.frozen? ⟨s + 1 + 1 + 1, 1, none⟩ = false := H9.out.x5.free 1
    have f2 : W9.cell? ⟨s + 1 + 1 + 1, 2, none⟩ = some (.slice none 0 0) := H9.out.x5.cell 2
    have g2 : W9.frozen? ⟨s + 1 + 1 + 1, 2, none⟩ = false := H9.out.x5.free 2
    have f3 : W9.cell? ⟨s + 1 + 1 + 1, 3, none⟩ = some (.slice none 0 0) := H9.out.x5.cell 3
    have g3 : W9.frozen? ⟨s + 1 + 1 + 1, 3, none⟩ = false := H9.out.x5.free 3
    go_upto_region 26 with fail
    go_region
    go_wp2_with fail
    refine bodyPost_ret (v := .tuple #[.agg #[.slice A9 (vals.length + 1) c9, .slice A10 (row.length + 1) c10], .agg #[.int .i64 0, .bool false, .slice none 0 0, .slice none 0 0]]) (by simp [results, Try.results39, go_sem, d0, d1, f0, f1, f2, f3]) rfl ?_
    obtain ⟨r1, r2, r3, r4⟩ := H9.out.fin (W1 := _) (fin_fr _ (.slice A9 (vals.length + 1) c9) (.slice A10 (row.length + 1) c10) (.int .i64 0) (.bool false) (.slice none 0 0) (.slice none 0 0))
    exact ⟨(A9, (vals.length + 1), c9), (A10, (row.length + 1), c10), .slice none 0 0, rfl, r1, r2, by rw [hs]; exact r3, by rw [hs]; exact r4⟩
end Go.Proofs.Ytmhnhfmkcipcpaa.LineDo

namespace Go.Proofs.Ytmhnhfmkcipcpaa.LineDo
open Go Go.RowKit Go.Deep Go.Proofs.Ytmhnhfmkcipcpaa.Hk Go.Proofs.Ytmhnhfmkcipcpaa.Heap Go.Proofs.Ytmhnhfmkcipcpaa.Stack Go.Proofs.Ytmhnhfmkcipcpaa.Seen Go.Proofs.Ytmhnhfmkcipcpaa.Lists Go.Proofs.Ytmhnhfmkcipcpaa.LnFn Go.Proofs.YtmhnhfmkcipcpaaW.PrintWords Go.Proofs.YtmhnhfmkcipcpaaW.PrintLast Go.Proofs.YtmhnhfmkcipcpaaW.PrintMore
set_option maxHeartbeats 16000000 in
set_option maxRecDepth 100000 in
theorem do2 (w : World) (VA RA : Option Addr) (VC RC : Nat) (vals row : List Int) (o key val : Int) (at0 : Int) (k0 : Nat) (hV : Lies w (VA, vals.length, VC) vals) (hR : Lies w (RA, row.length, RC) row) (hl : vals.length ≤ 1099511627776 ∧ row.length ≤ 1099511627776) (hat : spec_lineAt.f k0 row val = some at0) (row2 : List Int) (hcut : spec_cut.f row at0 = some row2) :
    Calls Try.prog 39 #[.agg #[.slice VA vals.length VC, .slice RA row.length RC], .agg #[.int .i64 o, .int .i64 2, .int .i64 key, .int .i64 val]] w fun e w' => ∃ vp rp kv, e = .returned (.tuple #[.agg #[slV vp, slV rp], .agg #[.int .i64 0, .bool false, kv, .slice none 0 0]]) ∧
      Lies w' vp (vals) ∧ Lies w' rp (row2) ∧ Ro w' w.heap.size kv ([]) ∧ Below w.heap.size w w' := by
  have H0 : Hid (Dn w.heap.size w (((((w.alloc (.cells #[.slice VA vals.length VC, .slice RA row.length RC] 61)).alloc (.cells #[.int .i64 o, .int .i64 2, .int .i64 key, .int .i64 val] 27)).alloc (.cells NL 61)).alloc (.cells (F4k (.slice none 0 0)) 34)).alloc (.cells (F4k (.slice none 0 0)) 34)) (VA, vals.length, VC) (RA, row.length, RC) vals row (.slice none 0 0) []) := hid (Dn.start #[.int .i64 o, .int .i64 2, .int .i64 key, .int .i64 val] hV hR)
  have HS0 : Hid (Blk (((((w.alloc (.cells #[.slice VA vals.length VC, .slice RA row.length RC] 61)).alloc (.cells #[.int .i64 o, .int .i64 2, .int .i64 key, .int .i64 val] 27)).alloc (.cells NL 61)).alloc (.cells (F4k (.slice none 0 0)) 34)).alloc (.cells (F4k (.slice none 0 0)) 34)) (w.heap.size + 1) #[.int .i64 o, .int .i64 2, .int .i64 key, .int .i64 val] 27) := by
    have h_ := Blk.new (w.alloc (.cells #[.slice VA vals.length VC, .slice RA row.length RC] 61)) #[.int .i64 o, .int .i64 2, .int .i64 key, .int .i64 val] 27
    rw [Hk.alloc_size] at h_
    exact hid (((h_.alloc _).alloc _).alloc _)
  have HL := hid hl
  have HAT := hid hat
  clear hV hR hl hat
  go_enter Try.func39, Try.ntmps39
  go_upto_region 2 with fail
  change Code.wp _ _ _ _ (((((w.alloc (.cells #[.slice VA vals.length VC, .slice RA row.length RC] 61)).alloc (.cells #[.int .i64 o, .int .i64 2, .int .i64 key, .int .i64 val] 27)).alloc (.cells NL 61)).alloc (.cells (F4k (.slice none 0 0)) 34)).alloc (.cells (F4k (.slice none 0 0)) 34))
  generalize (((((w.alloc (.cells #[.slice VA vals.length VC, .slice RA row.length RC] 61)).alloc (.cells #[.int .i64 o, .int .i64 2, .int .i64 key, .int .i64 val] 27)).alloc (.cells NL 61)).alloc (.cells (F4k (.slice none 0 0)) 34)).alloc (.cells (F4k (.slice none 0 0)) 34)) = W0 at H0 HS0 ⊢
  obtain ⟨s, hs⟩ : ∃ s, w.heap.size = s := ⟨_, rfl⟩
  rw [hs] at H0 HS0 ⊢
  have c1 : W0.cell? ⟨s, 1, none⟩ = some (.slice RA row.length RC) := H0.out.x2.cell 1
  have k3 : W0.cell? ⟨s + 1, 3, none⟩ = some (.int .i64 val) := HS0.out.cell 3
  go_upto_region 3 with ((go_at_call 67; refine (spec_lineAt.calls k0 RA RC row val at0 W0 H0.out.lr.cells H0.out.lr.cap HAT.out).mono ?_; rintro e w' ⟨rfl, ⟨n, rfl⟩⟩))
  have H1 := hid (H0.out.drewN n)
  have HS1 : Hid (Blk (W0.drewN n) (s + 1) #[.int .i64 o, .int .i64 2, .int .i64 key, .int .i64 val] 27) := hid (HS0.out.drewN n)
  clear H0 HS0 c1 k3
  generalize W0.drewN n = W at H1 HS1 ⊢
  have k1 : W.cell? ⟨s + 1, 1, none⟩ = some (.int .i64 2) := HS1.out.cell 1
  have HCUT := hid hcut
  clear hcut
  go_upto_region 11 with fail
  have c1 : W.cell? ⟨s, 1, none⟩ = some (.slice RA row.length RC) := H1.out.x2.cell 1
  go_wp2_with fail
  refine (spec_cut.calls RA RC row at0 row2 W H1.out.lr.cells H1.out.lr.cap HCUT.out).mono ?_
  rintro e W2 ⟨v0, rfl, hO, hB⟩
  obtain ⟨A, c, rfl⟩ := Kd.R_slice hO
  have H2 := hid (H1.out.later hB)
  have y1 : W2.cell? ⟨s, 1, none⟩ = some (.slice RA row.length RC) := H2.out.x2.cell 1
  have y2 : W2.frozen? ⟨s, 1, none⟩ = false := H2.out.x2.free 1
  have HO : Hid (Lies W2 (A, row2.length, c) row2) := hid (Lies.of hO)
  have H3 := hid (H2.out.setR HO.out)
  clear hO hB H1 HS1 k1 c1 H2 HO
  go_upto_region 26 with fail
  clear y1 y2
  change Code.wp _ _ _ _ (W2.setCell ⟨s, 1, none⟩ (slV (A, row2.length, c)))
  generalize W2.setCell ⟨s, 1, none⟩ (slV (A, row2.length, c)) = W3 at H3 ⊢
  have a0 : W3.cell? ⟨s, 0, none⟩ = some (.slice VA vals.length VC) := H3.out.x2.cell 0
  have a1 : W3.cell? ⟨s, 1, none⟩ = some (.slice A row2.length c) := H3.out.x2.cell 1
  have b0 : W3.cell? ⟨s + 1 + 1 + 1 + 1, 0, none⟩ = some (.int .i64 0) := H3.out.x6.cell 0
  have b1 : W3.cell? ⟨s + 1 + 1 + 1 + 1, 1, none⟩ = some (.bool false) := H3.out.x6.cell 1
  have b2 : W3.cell? ⟨s + 1 + 1 + 1 + 1, 2, none⟩ = some (.slice none 0 0) := H3.out.x6.cell 2
  have b3 : W3.cell? ⟨s + 1 + 1 + 1 + 1, 3, none⟩ = some (.slice none 0 0) := H3.out.x6.cell 3
  have d0 : W3.cell? ⟨s + 1 + 1, 0, none⟩ = some (.slice none 0 0) := H3.out.x4.cell 0
  have e0 : W3.frozen? ⟨s + 1 + 1, 0, none⟩ = false := H3.out.x4.free 0
  have d1 : W3.cell? ⟨s + 1 + 1, 1, none⟩ = some (.slice none 0 0) := H3.out.x4.cell 1
  have e1 : W3.frozen? ⟨s + 1 + 1, 1, none⟩ = false := H3.out.x4.free 1
  have f0 : W3.cell? ⟨s + 1 + 1 + 1, 0, none⟩ = some (.int .i64 0) := H3.out.x5.cell 0
  have g0 : W3.frozen? ⟨s + 1 + 1 + 1, 0, none⟩ = false := H3.out.x5.free 0
  have f1 : W3.cell? ⟨s + 1 + 1 + 1, 1, none⟩ = some (.bool false) := H3.out.x5.cell 1
  have g1 : W3.frozen? ⟨s + 1 + 1 + 1, 1, none⟩ = false := H3.out.x5.free 1
  have f2 : W3.cell? ⟨s + 1 + 1 + 1, 2, none⟩ = some (.slice none 0 0) := H3.out.x5.cell 2
  have g2 : W3.frozen? ⟨s + 1 + 1 + 1, 2, none⟩ = false := H3.out.x5.free 2
  have f3 : W3.cell? ⟨s + 1 + 1 + 1, 3, none⟩ = some (.slice none 0 0) := H3.out.x5.cell 3
  have g3 : W3.frozen? ⟨s + 1 + 1 + 1, 3, none⟩ = false := H3.out.x5.free 3
  go_upto_region 26 with fail
  go_region
  go_wp2_with fail
  refine bodyPost_ret (v := .tuple #[.agg #[.slice VA vals.length VC, .slice A row2.length c], .agg #[.int .i64 0, .bool false, .slice none 0 0, .slice none 0 0]]) (by simp [results, Try.results39, go_sem, d0, d1, f0, f1, f2, f3]) rfl ?_
  obtain ⟨r1, r2, r3, r4⟩ := H3.out.fin (W1 := _) (fin_fr _ (.slice VA vals.length VC) (.slice A row2.length c) (.int .i64 0) (.bool false) (.slice none 0 0) (.slice none 0 0))
  exact ⟨(VA, vals.length, VC), (A, row2.length, c), .slice none 0 0, rfl, r1, r2, by rw [hs]; exact r3, by rw [hs]; exact r4⟩
set_option maxHeartbeats 16000000 in
set_option maxRecDepth 100000 in
theorem do5 (w : World) (VA RA : Option Addr) (VC RC : Nat) (vals row : List Int) (o key val : Int) (at0 : Int) (k0 : Nat) (hV : Lies w (VA, vals.length, VC) vals) (hR : Lies w (RA, row.length, RC) row) (hl : vals.length ≤ 1099511627776 ∧ row.length ≤ 1099511627776) (hat : spec_lineAt.f k0 row val = some at0) (kr : Nat) (ks : List Int) (hrow : spec_lineRow.f kr vals row = some ks) :
    Calls Try.prog 39 #[.agg #[.slice VA vals.length VC, .slice RA row.length RC], .agg #[.int .i64 o, .int .i64 5, .int .i64 key, .int .i64 val]] w fun e w' => ∃ vp rp kv, e = .returned (.tuple #[.agg #[slV vp, slV rp], .agg #[.int .i64 0, .bool false, kv, .slice none 0 0]]) ∧
      Lies w' vp (vals) ∧ Lies w' rp (row) ∧ Ro w' w.heap.size kv (ks) ∧ Below w.heap.size w w' := by
  have H0 : Hid (Dn w.heap.size w (((((w.alloc (.cells #[.slice VA vals.length VC, .slice RA row.length RC] 61)).alloc (.cells #[.int .i64 o, .int .i64 5, .int .i64 key, .int .i64 val] 27)).alloc (.cells NL 61)).alloc (.cells (F4k (.slice none 0 0)) 34)).alloc (.cells (F4k (.slice none 0 0)) 34)) (VA, vals.length, VC) (RA, row.length, RC) vals row (.slice none 0 0) []) := hid (Dn.start #[.int .i64 o, .int .i64 5, .int .i64 key, .int .i64 val] hV hR)
  have HS0 : Hid (Blk (((((w.alloc (.cells #[.slice VA vals.length VC, .slice RA row.length RC] 61)).alloc (.cells #[.int .i64 o, .int .i64 5, .int .i64 key, .int .i64 val] 27)).alloc (.cells NL 61)).alloc (.cells (F4k (.slice none 0 0)) 34)).alloc (.cells (F4k (.slice none 0 0)) 34)) (w.heap.size + 1) #[.int .i64 o, .int .i64 5, .int .i64 key, .int .i64 val] 27) := by
    have h_ := Blk.new (w.alloc (.cells #[.slice VA vals.length VC, .slice RA row.length RC] 61)) #[.int .i64 o, .int .i64 5, .int .i64 key, .int .i64 val] 27
    rw [Hk.alloc_size] at h_
    exact hid (((h_.alloc _).alloc _).alloc _)
  have HL := hid hl
  have HAT := hid hat
  clear hV hR hl hat
  go_enter Try.func39, Try.ntmps39
  go_upto_region 2 with fail
  change Code.wp _ _ _ _ (((((w.alloc (.cells #[.slice VA vals.length VC, .slice RA row.length RC] 61)).alloc (.cells #[.int .i64 o, .int .i64 5, .int .i64 key, .int .i64 val] 27)).alloc (.cells NL 61)).alloc (.cells (F4k (.slice none 0 0)) 34)).alloc (.cells (F4k (.slice none 0 0)) 34))
  generalize (((((w.alloc (.cells #[.slice VA vals.length VC, .slice RA row.length RC] 61)).alloc (.cells #[.int .i64 o, .int .i64 5, .int .i64 key, .int .i64 val] 27)).alloc (.cells NL 61)).alloc (.cells (F4k (.slice none 0 0)) 34)).alloc (.cells (F4k (.slice none 0 0)) 34)) = W0 at H0 HS0 ⊢
  obtain ⟨s, hs⟩ : ∃ s, w.heap.size = s := ⟨_, rfl⟩
  rw [hs] at H0 HS0 ⊢
  have c1 : W0.cell? ⟨s, 1, none⟩ = some (.slice RA row.length RC) := H0.out.x2.cell 1
  have k3 : W0.cell? ⟨s + 1, 3, none⟩ = some (.int .i64 val) := HS0.out.cell 3
  go_upto_region 3 with ((go_at_call 67; refine (spec_lineAt.calls k0 RA RC row val at0 W0 H0.out.lr.cells H0.out.lr.cap HAT.out).mono ?_; rintro e w' ⟨rfl, ⟨n, rfl⟩⟩))
  have H1 := hid (H0.out.drewN n)
  have HS1 : Hid (Blk (W0.drewN n) (s + 1) #[.int .i64 o, .int .i64 5, .int .i64 key, .int .i64 val] 27) := hid (HS0.out.drewN n)
  clear H0 HS0 c1 k3
  generalize W0.drewN n = W at H1 HS1 ⊢
  have k1 : W.cell? ⟨s + 1, 1, none⟩ = some (.int .i64 5) := HS1.out.cell 1
  have HROW := hid hrow
  clear hrow
  have c0 : W.cell? ⟨s, 0, none⟩ = some (.slice VA vals.length VC) := H1.out.x2.cell 0
  have c1 : W.cell? ⟨s, 1, none⟩ = some (.slice RA row.length RC) := H1.out.x2.cell 1
  go_wp2_with fail
  refine (spec_lineRow.calls kr VA VC vals RA RC row ks W H1.out.lv.cells H1.out.lv.cap H1.out.lr.cells H1.out.lr.cap HROW.out).mono ?_
  rintro e W2 ⟨v0, rfl, hO, hB⟩
  obtain ⟨KA, KC, rfl⟩ := Kd.R_slice hO
  have H2 := hid (H1.out.later hB)
  have HO : Hid (Ro W2 s (.slice KA ks.length KC) ks) := hid (Kd.R_lower hO (by have := H1.out.lt; omega))
  clear hO hB
  clear H1 HS1 k1 c0 c1
  have z1 : W2.cell? ⟨s + 1 + 1 + 1 + 1, 2, none⟩ = some (.slice none 0 0) := H2.out.x6.cell 2
  have z2 : W2.frozen? ⟨s + 1 + 1 + 1 + 1, 2, none⟩ = false := H2.out.x6.free 2
  have H3 := hid (H2.out.told HO.out)
  clear H2 HO
  go_upto_region 26 with fail
  clear z1 z2
  change Code.wp _ _ _ _ (W2.setCell ⟨s + 4, 2, none⟩ (.slice KA ks.length KC))
  generalize W2.setCell ⟨s + 4, 2, none⟩ (.slice KA ks.length KC) = W3 at H3 ⊢
  have a0 : W3.cell? ⟨s, 0, none⟩ = some (.slice VA vals.length VC) := H3.out.x2.cell 0
  have a1 : W3.cell? ⟨s, 1, none⟩ = some (.slice RA row.length RC) := H3.out.x2.cell 1
  have b0 : W3.cell? ⟨s + 1 + 1 + 1 + 1, 0, none⟩ = some (.int .i64 0) := H3.out.x6.cell 0
  have b1 : W3.cell? ⟨s + 1 + 1 + 1 + 1, 1, none⟩ = some (.bool false) := H3.out.x6.cell 1
  have b2 : W3.cell? ⟨s + 1 + 1 + 1 + 1, 2, none⟩ = some (.slice KA ks.length KC) := H3.out.x6.cell 2
  have b3 : W3.cell? ⟨s + 1 + 1 + 1 + 1, 3, none⟩ = some (.slice none 0 0) := H3.out.x6.cell 3
  have d0 : W3.cell? ⟨s + 1 + 1, 0, none⟩ = some (.slice none 0 0) := H3.out.x4.cell 0
  have e0 : W3.frozen? ⟨s + 1 + 1, 0, none⟩ = false := H3.out.x4.free 0
  have d1 : W3.cell? ⟨s + 1 + 1, 1, none⟩ = some (.slice none 0 0) := H3.out.x4.cell 1
  have e1 : W3.frozen? ⟨s + 1 + 1, 1, none⟩ = false := H3.out.x4.free 1
  have f0 : W3.cell? ⟨s + 1 + 1 + 1, 0, none⟩ = some (.int .i64 0) := H3.out.x5.cell 0
  have g0 : W3.frozen? ⟨s + 1 + 1 + 1, 0, none⟩ = false := H3.out.x5.free 0
  have f1 : W3.cell? ⟨s + 1 + 1 + 1, 1, none⟩ = some (.bool false) := H3.out.x5.cell 1
  have g1 : W3.frozen? ⟨s + 1 + 1 + 1, 1, none⟩ = false := H3.out.x5.free 1
  have f2 : W3.cell? ⟨s + 1 + 1 + 1, 2, none⟩ = some (.slice none 0 0) := H3.out.x5.cell 2
  have g2 : W3.frozen? ⟨s + 1 + 1 + 1, 2, none⟩ = false := H3.out.x5.free 2
  have f3 : W3.cell? ⟨s + 1 + 1 + 1, 3, none⟩ = some (.slice none 0 0) := H3.out.x5.cell 3
  have g3 : W3.frozen? ⟨s + 1 + 1 + 1, 3, none⟩ = false := H3.out.x5.free 3
  go_upto_region 26 with fail
  go_region
  go_wp2_with fail
  refine bodyPost_ret (v := .tuple #[.agg #[.slice VA vals.length VC, .slice RA row.length RC], .agg #[.int .i64 0, .bool false, .slice KA ks.length KC, .slice none 0 0]]) (by simp [results, Try.results39, go_sem, d0, d1, f0, f1, f2, f3]) rfl ?_
  obtain ⟨r1, r2, r3, r4⟩ := H3.out.fin (W1 := _) (fin_fr _ (.slice VA vals.length VC) (.slice RA row.length RC) (.int .i64 0) (.bool false) (.slice KA ks.length KC) (.slice none 0 0))
  exact ⟨(VA, vals.length, VC), (RA, row.length, RC), .slice KA ks.length KC, rfl, r1, r2, by rw [hs]; exact r3, by rw [hs]; exact r4⟩
set_option maxHeartbeats 16000000 in
set_option maxRecDepth 100000 in
theorem do6 (w : World) (VA RA : Option Addr) (VC RC : Nat) (vals row : List Int) (o key val : Int) (at0 : Int) (k0 : Nat) (hV : Lies w (VA, vals.length, VC) vals) (hR : Lies w (RA, row.length, RC) row) (hl : vals.length ≤ 1099511627776 ∧ row.length ≤ 1099511627776) (hat : spec_lineAt.f k0 row val = some at0) (kr kt : Nat) (ks1 ks : List Int) (hrow : spec_lineRow.f kr vals row = some ks1) (hturn : spec_lineTurned.f kt ks1 = some ks) :
    Calls Try.prog 39 #[.agg #[.slice VA vals.length VC, .slice RA row.length RC], .agg #[.int .i64 o, .int .i64 6, .int .i64 key, .int .i64 val]] w fun e w' => ∃ vp rp kv, e = .returned (.tuple #[.agg #[slV vp, slV rp], .agg #[.int .i64 0, .bool false, kv, .slice none 0 0]]) ∧
      Lies w' vp (vals) ∧ Lies w' rp (row) ∧ Ro w' w.heap.size kv (ks) ∧ Below w.heap.size w w' := by
  have H0 : Hid (Dn w.heap.size w (((((w.alloc (.cells #[.slice VA vals.length VC, .slice RA row.length RC] 61)).alloc (.cells #[.int .i64 o, .int .i64 6, .int .i64 key, .int .i64 val] 27)).alloc (.cells NL 61)).alloc (.cells (F4k (.slice none 0 0)) 34)).alloc (.cells (F4k (.slice none 0 0)) 34)) (VA, vals.length, VC) (RA, row.length, RC) vals row (.slice none 0 0) []) := hid (Dn.start #[.int .i64 o, .int .i64 6, .int .i64 key, .int .i64 val] hV hR)
  have HS0 : Hid (Blk (((((w.alloc (.cells #[.slice VA vals.length VC, .slice RA row.length RC] 61)).alloc (.cells #[.int .i64 o, .int .i64 6, .int .i64 key, .int .i64 val] 27)).alloc (.cells NL 61)).alloc (.cells (F4k (.slice none 0 0)) 34)).alloc (.cells (F4k (.slice none 0 0)) 34)) (w.heap.size + 1) #[.int .i64 o, .int .i64 6, .int .i64 key, .int .i64 val] 27) := by
    have h_ := Blk.new (w.alloc (.cells #[.slice VA vals.length VC, .slice RA row.length RC] 61)) #[.int .i64 o, .int .i64 6, .int .i64 key, .int .i64 val] 27
    rw [Hk.alloc_size] at h_
    exact hid (((h_.alloc _).alloc _).alloc _)
  have HL := hid hl
  have HAT := hid hat
  clear hV hR hl hat
  go_enter Try.func39, Try.ntmps39
  go_upto_region 2 with fail
  change Code.wp _ _ _ _ (((((w.alloc (.cells #[.slice VA vals.length VC, .slice RA row.length RC] 61)).alloc (.cells #[.int .i64 o, .int .i64 6, .int .i64 key, .int .i64 val] 27)).alloc (.cells NL 61)).alloc (.cells (F4k (.slice none 0 0)) 34)).alloc (.cells (F4k (.slice none 0 0)) 34))
  generalize (((((w.alloc (.cells #[.slice VA vals.length VC, .slice RA row.length RC] 61)).alloc (.cells #[.int .i64 o, .int .i64 6, .int .i64 key, .int .i64 val] 27)).alloc (.cells NL 61)).alloc (.cells (F4k (.slice none 0 0)) 34)).alloc (.cells (F4k (.slice none 0 0)) 34)) = W0 at H0 HS0 ⊢
  obtain ⟨s, hs⟩ : ∃ s, w.heap.size = s := ⟨_, rfl⟩
  rw [hs] at H0 HS0 ⊢
  have c1 : W0.cell? ⟨s, 1, none⟩ = some (.slice RA row.length RC) := H0.out.x2.cell 1
  have k3 : W0.cell? ⟨s + 1, 3, none⟩ = some (.int .i64 val) := HS0.out.cell 3
  go_upto_region 3 with ((go_at_call 67; refine (spec_lineAt.calls k0 RA RC row val at0 W0 H0.out.lr.cells H0.out.lr.cap HAT.out).mono ?_; rintro e w' ⟨rfl, ⟨n, rfl⟩⟩))
  have H1 := hid (H0.out.drewN n)
  have HS1 : Hid (Blk (W0.drewN n) (s + 1) #[.int .i64 o, .int .i64 6, .int .i64 key, .int .i64 val] 27) := hid (HS0.out.drewN n)
  clear H0 HS0 c1 k3
  generalize W0.drewN n = W at H1 HS1 ⊢
  have k1 : W.cell? ⟨s + 1, 1, none⟩ = some (.int .i64 6) := HS1.out.cell 1
  have HROW := hid hrow
  have HTURN := hid hturn
  clear hrow hturn
  have c0 : W.cell? ⟨s, 0, none⟩ = some (.slice VA vals.length VC) := H1.out.x2.cell 0
  have c1 : W.cell? ⟨s, 1, none⟩ = some (.slice RA row.length RC) := H1.out.x2.cell 1
  go_wp2_with fail
  refine (spec_lineRow.calls kr VA VC vals RA RC row ks1 W H1.out.lv.cells H1.out.lv.cap H1.out.lr.cells H1.out.lr.cap HROW.out).mono ?_
  rintro e W2 ⟨v0, rfl, hO, hB⟩
  obtain ⟨KA, KC, rfl⟩ := Kd.R_slice hO
  have H2 := hid (H1.out.later hB)
  have HO : Hid (Ro W2 s (.slice KA ks1.length KC) ks1) := hid (Kd.R_lower hO (by have := H1.out.lt; omega))
  clear hO hB
  clear H1 HS1 k1 c0 c1
  go_wp2_with fail
  refine (spec_lineTurned.calls kt KA KC ks1 ks W2 (Kd.R_reads' HO.out).2.2 (Kd.R_reads' HO.out).2.1 HTURN.out).mono ?_
  rintro e W4 ⟨v1, rfl, hO, hB⟩
  obtain ⟨LA, LC, rfl⟩ := Kd.R_slice hO
  have H4 := hid (H2.out.later hB)
  have HO4 : Hid (Ro W4 s (.slice LA ks.length LC) ks) := hid (Kd.R_lower hO (by have := H2.out.lt; omega))
  clear hO hB HO H2
  have HO := HO4
  clear HO4
  have z1 : W4.cell? ⟨s + 1 + 1 + 1 + 1, 2, none⟩ = some (.slice none 0 0) := H4.out.x6.cell 2
  have z2 : W4.frozen? ⟨s + 1 + 1 + 1 + 1, 2, none⟩ = false := H4.out.x6.free 2
  have H3 := hid (H4.out.told HO.out)
  clear H4 HO
  go_upto_region 26 with fail
  clear z1 z2
  change Code.wp _ _ _ _ (W4.setCell ⟨s + 4, 2, none⟩ (.slice LA ks.length LC))
  generalize W4.setCell ⟨s + 4, 2, none⟩ (.slice LA ks.length LC) = W3 at H3 ⊢
  have a0 : W3.cell? ⟨s, 0, none⟩ = some (.slice VA vals.length VC) := H3.out.x2.cell 0
  have a1 : W3.cell? ⟨s, 1, none⟩ = some (.slice RA row.length RC) := H3.out.x2.cell 1
  have b0 : W3.cell? ⟨s + 1 + 1 + 1 + 1, 0, none⟩ = some (.int .i64 0) := H3.out.x6.cell 0
  have b1 : W3.cell? ⟨s + 1 + 1 + 1 + 1, 1, none⟩ = some (.bool false) := H3.out.x6.cell 1
  have b2 : W3.cell? ⟨s + 1 + 1 + 1 + 1, 2, none⟩ = some (.slice LA ks.length LC) := H3.out.x6.cell 2
  have b3 : W3.cell? ⟨s + 1 + 1 + 1 + 1, 3, none⟩ = some (.slice none 0 0) := H3.out.x6.cell 3
  have d0 : W3.cell? ⟨s + 1 + 1, 0, none⟩ = some (.slice none 0 0) := H3.out.x4.cell 0
  have e0 : W3.frozen? ⟨s + 1 + 1, 0, none⟩ = false := H3.out.x4.free 0
  have d1 : W3.cell? ⟨s + 1 + 1, 1, none⟩ = some (.slice none 0 0) := H3.out.x4.cell 1
  have e1 : W3.frozen? ⟨s + 1 + 1, 1, none⟩ = false := H3.out.x4.free 1
  have f0 : W3.cell? ⟨s + 1 + 1 + 1, 0, none⟩ = some (.int .i64 0) := H3.out.x5.cell 0
  have g0 : W3.frozen? ⟨s + 1 + 1 + 1, 0, none⟩ = false := H3.out.x5.free 0
  have f1 : W3.cell? ⟨s + 1 + 1 + 1, 1, none⟩ = some (.bool false) := H3.out.x5.cell 1
  have g1 : W3.frozen? ⟨s + 1 + 1 + 1, 1, none⟩ = false := H3.out.x5.free 1
  have f2 : W3.cell? ⟨s + 1 + 1 + 1, 2, none⟩ = some (.slice none 0 0) := H3.out.x5.cell 2
  have g2 : W3.frozen? ⟨s + 1 + 1 + 1, 2, none⟩ = false := H3.out.x5.free 2
  have f3 : W3.cell? ⟨s + 1 + 1 + 1, 3, none⟩ = some (.slice none 0 0) := H3.out.x5.cell 3
  have g3 : W3.frozen? ⟨s + 1 + 1 + 1, 3, none⟩ = false := H3.out.x5.free 3
  go_upto_region 26 with fail
  go_region
  go_wp2_with fail
  refine bodyPost_ret (v := .tuple #[.agg #[.slice VA vals.length VC, .slice RA row.length RC], .agg #[.int .i64 0, .bool false, .slice LA ks.length LC, .slice none 0 0]]) (by simp [results, Try.results39, go_sem, d0, d1, f0, f1, f2, f3]) rfl ?_
  obtain ⟨r1, r2, r3, r4⟩ := H3.out.fin (W1 := _) (fin_fr _ (.slice VA vals.length VC) (.slice RA row.length RC) (.int .i64 0) (.bool false) (.slice LA ks.length LC) (.slice none 0 0))
  exact ⟨(VA, vals.length, VC), (RA, row.length, RC), .slice LA ks.length LC, rfl, r1, r2, by rw [hs]; exact r3, by rw [hs]; exact r4⟩
end Go.Proofs.Ytmhnhfmkcipcpaa.LineDo
