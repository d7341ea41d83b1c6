/- Ternary search tries in memory: a word removed. For every trie and every word. -/
import Derived.Test.YtkgbflcbeeghoaaTrieC
namespace Go.Proofs.Ytkgbflcbeeghoaa.Trie
open Go Go.RowKit Go.Proofs.Ytkgbflcbeeghoaa.Hk Go.Proofs.Ytkgbflcbeeghoaa.TriePure

theorem rem_eq {c : UInt8} {l m r : T} {v : Int} {ok : Bool} {k : UInt8} {ks : W} : T.rem (.node c l m r v ok) (k :: ks) =
    if k < c then T.trim (.node c (T.rem l (k :: ks)) m r v ok) else if c < k then T.trim (.node c l m (T.rem r (k :: ks)) v ok) else match ks with
      | [] => T.trim (.node c l m r 0 false)
      | k2 :: ks2 => T.trim (.node c l (T.rem m (k2 :: ks2)) r v ok) := by cases ks <;> rfl
def Removed (t : N) (ks : W) (w : World) (e : Ending) (w' : World) : Prop := ∃ t' : N, e = .returned t'.ptr ∧ t'.raw = T.rem t.raw ks ∧ Put t t' w w'
def RemC (base : Nat) (s : ByteArray) (Tb : Option Addr) (d : Nat) (t : N) : Prop :=
  ∀ w, Good base w t → base ≤ w.heap.size → Calls Try.prog 62 #[.pointer Tb, t.ptr, .string s, .int .i64 (d : Int)] w (Removed t (suf s d) w)
theorem unused_raw (b : Nat) (c : UInt8) (l m r : N) (v : Int) (ok : Bool) : (N.node b c l m r v ok).raw.unused = (!ok && m.isNil) := by
  show (!ok && m.raw.isNil) = _
  rw [raw_nil]
theorem rem_nil (base : Nat) (s : ByteArray) (Tb : Option Addr) (d : Nat) : RemC base s Tb d .nil := by
  intro w _ _
  show Calls Try.prog 62 #[.pointer Tb, .pointer none, .string s, .int .i64 (d : Int)] w _
  go_enter Try.func62, Try.ntmps62
  go_wp2_with fail
  go_ret
  exact ⟨.nil, rfl, rfl, trivial, List.nodup_nil, fun x hx => by simp [N.ids] at hx, Fr.refl _ _⟩

set_option maxHeartbeats 8000000 in
set_option maxRecDepth 100000 in
theorem rem_node (base : Nat) (s : ByteArray) (Tb : Option Addr) (d : Nat) (b : Nat) (c : UInt8) (l m r : N) (v : Int) (ok : Bool) (hd : d < s.size) (hs : s.size ≤ 1099511627776) (hl : RemC base s Tb d l) (hr : RemC base s Tb d r) (hm : d + 1 < s.size → RemC base s Tb (d + 1) m) :
    RemC base s Tb d (.node b c l m r v ok) := by
  intro w g hb
  have HG := hid g
  have HX := hid (suf_cons s d hd)
  have HB := hid hb
  have HL := hid hl
  have HRR := hid hr
  have c0 : w.cell? ⟨b, 0, none⟩ = some (.int .u8 (c.toNat : Int)) := g.mem.1.cell 0
  have c1 : w.cell? ⟨b, 1, none⟩ = some l.ptr := g.mem.1.cell 1
  have c2 : w.cell? ⟨b, 2, none⟩ = some m.ptr := g.mem.1.cell 2
  have c3 : w.cell? ⟨b, 3, none⟩ = some r.ptr := g.mem.1.cell 3
  clear g hb hl hr
  show Calls Try.prog 62 #[.pointer Tb, .pointer (some ⟨b, 0, none⟩), .string s, .int .i64 (d : Int)] w _
  by_cases h1 : s[d] < c
  · have h1' : (s[d]).toNat < (c).toNat := u_lt.1 h1
    have h1i : decide (((s[d]).toNat : Int) < ((c).toNat : Int)) = true := decide_eq_true (by omega)
    have h1n : decide ((s[d]).toNat < (c).toNat) = true := decide_eq_true h1'
    have HRX : Hid (T.rem (N.node b c l m r v ok).raw (suf s d) = T.trim (T.node c (T.rem l.raw (suf s d)) m.raw r.raw v ok)) := by
      rw [HX.out]; exact hid (rem_eq.trans (if_pos h1))
    clear h1
    go_enter Try.func62, Try.ntmps62
    go_wp2_with fail
    refine (HL.out w HG.out.part_l HB.out).mono ?_
    rintro e w1 ⟨l', rfl, hraw, hput⟩
    obtain ⟨hk, hset⟩ := Put.set_l HG.out hput
    have HP := hid hset
    have HR := hid hraw
    have d1 : w1.cell? ⟨b, 1, none⟩ = some l.ptr := hk.cell 1
    have f1 : w1.frozen? ⟨b, 1, none⟩ = false := hk.free 1
    obtain ⟨u, hu⟩ := l'.ptr_some
    rw [hu] at HP ⊢
    have HU := hid hu
    clear hk hset hput hraw hu
    have HN : Hid ((N.node b c l' m r v ok).raw = T.node c (T.rem l.raw (suf s d)) m.raw r.raw v ok) := by rw [← HR.out]; exact hid rfl
    go_wp2_with fail
    refine (isUnused_any b c l' m r v ok _ HP.out.mem).mono ?_
    rintro e w3 ⟨rfl, rfl⟩
    have HG3 := hid (HP.out.good HG.out HB.out)
    obtain ⟨q, hq⟩ : ∃ q, (!ok && m.isNil) = q := ⟨_, rfl⟩
    have HQ := hid hq
    rw [hq]
    clear hq
    cases q with
    | true =>
      go_wp2_with fail
      refine (delete_any b c l' m r v ok base _ HG3.out).mono ?_
      rintro e w4 ⟨rfl, hdel⟩
      have HD := hid hdel
      clear hdel
      go_wp2_with fail
      go_ret
      exact ⟨_, rfl, by rw [HRX.out, del_raw, HN.out]; exact (if_pos (by rw [← HN.out, unused_raw]; exact HQ.out)).symm, HP.out.then HD.out⟩
    | false =>
      go_wp2_with fail
      go_ret
      exact ⟨.node b c l' m r v ok, rfl, by rw [HRX.out, HN.out]; exact (if_neg (by rw [← HN.out, unused_raw, HQ.out]; simp)).symm, HP.out⟩
  by_cases h2 : c < s[d]
  · have h2' : (c).toNat < (s[d]).toNat := u_lt.1 h2
    have h1' : ¬ (s[d]).toNat < (c).toNat := by omega
    have h1i : decide (((s[d]).toNat : Int) < ((c).toNat : Int)) = false := decide_eq_false (by omega)
    have h1n : decide ((s[d]).toNat < (c).toNat) = false := decide_eq_false h1'
    have h2i : decide (((c).toNat : Int) < ((s[d]).toNat : Int)) = true := decide_eq_true (by omega)
    have h2n : decide ((c).toNat < (s[d]).toNat) = true := decide_eq_true h2'
    have HRX : Hid (T.rem (N.node b c l m r v ok).raw (suf s d) = T.trim (T.node c l.raw m.raw (T.rem r.raw (suf s d)) v ok)) := by
      rw [HX.out]; exact hid (rem_eq.trans ((if_neg h1).trans (if_pos h2)))
    clear h1 h2
    go_enter Try.func62, Try.ntmps62
    go_wp2_with fail
    refine (HRR.out w HG.out.part_r HB.out).mono ?_
    rintro e w1 ⟨r', rfl, hraw, hput⟩
    obtain ⟨hk, hset⟩ := Put.set_r HG.out hput
    have HP := hid hset
    have HR := hid hraw
    have d1 : w1.cell? ⟨b, 3, none⟩ = some r.ptr := hk.cell 3
    have f1 : w1.frozen? ⟨b, 3, none⟩ = false := hk.free 3
    obtain ⟨u, hu⟩ := r'.ptr_some
    rw [hu] at HP ⊢
    have HU := hid hu
    clear hk hset hput hraw hu
    have HN : Hid ((N.node b c l m r' v ok).raw = T.node c l.raw m.raw (T.rem r.raw (suf s d)) v ok) := by rw [← HR.out]; exact hid rfl
    go_wp2_with fail
    refine (isUnused_any b c l m r' v ok _ HP.out.mem).mono ?_
    rintro e w3 ⟨rfl, rfl⟩
    have HG3 := hid (HP.out.good HG.out HB.out)
    obtain ⟨q, hq⟩ : ∃ q, (!ok && m.isNil) = q := ⟨_, rfl⟩
    have HQ := hid hq
    rw [hq]
    clear hq
    cases q with
    | true =>
      go_wp2_with fail
      refine (delete_any b c l m r' v ok base _ HG3.out).mono ?_
      rintro e w4 ⟨rfl, hdel⟩
      have HD := hid hdel
      clear hdel
      go_wp2_with fail
      go_ret
      exact ⟨_, rfl, by rw [HRX.out, del_raw, HN.out]; exact (if_pos (by rw [← HN.out, unused_raw]; exact HQ.out)).symm, HP.out.then HD.out⟩
    | false =>
      go_wp2_with fail
      go_ret
      exact ⟨.node b c l m r' v ok, rfl, by rw [HRX.out, HN.out]; exact (if_neg (by rw [← HN.out, unused_raw, HQ.out]; simp)).symm, HP.out⟩
  have h1' : ¬ (s[d]).toNat < (c).toNat := fun e => h1 (u_lt.2 e)
  have h2' : ¬ (c).toNat < (s[d]).toNat := fun e => h2 (u_lt.2 e)
  have h1i : decide (((s[d]).toNat : Int) < ((c).toNat : Int)) = false := decide_eq_false (by omega)
  have h1n : decide ((s[d]).toNat < (c).toNat) = false := decide_eq_false h1'
  have h2i : decide (((c).toNat : Int) < ((s[d]).toNat : Int)) = false := decide_eq_false (by omega)
  have h2n : decide ((c).toNat < (s[d]).toNat) = false := decide_eq_false h2'
  by_cases h3 : d + 1 < s.size
  · have h3i : decide ((d : Int) < (s.size : Int) - 1) = true := decide_eq_true (by omega)
    have h3' : (d : Int) < (s.size : Int) - 1 := by omega
    have H3 := hid (hm h3)
    have HRX : Hid (T.rem (N.node b c l m r v ok).raw (suf s d) = T.trim (T.node c l.raw (T.rem m.raw (suf s (d + 1))) r.raw v ok)) := by
      rw [HX.out, suf_cons s (d + 1) h3]; exact hid (rem_eq.trans ((if_neg h1).trans (if_neg h2)))
    clear h1 h2 h3
    go_enter Try.func62, Try.ntmps62
    go_wp2_with fail
    refine (H3.out w HG.out.part_m HB.out).mono ?_
    rintro e w1 ⟨m', rfl, hraw, hput⟩
    obtain ⟨hk, hset⟩ := Put.set_m HG.out hput
    have HP := hid hset
    have HR := hid hraw
    have d1 : w1.cell? ⟨b, 2, none⟩ = some m.ptr := hk.cell 2
    have f1 : w1.frozen? ⟨b, 2, none⟩ = false := hk.free 2
    obtain ⟨u, hu⟩ := m'.ptr_some
    rw [hu] at HP ⊢
    have HU := hid hu
    clear hk hset hput hraw hu
    have HN : Hid ((N.node b c l m' r v ok).raw = T.node c l.raw (T.rem m.raw (suf s (d + 1))) r.raw v ok) := by rw [← HR.out]; exact hid rfl
    go_wp2_with fail
    refine (isUnused_any b c l m' r v ok _ HP.out.mem).mono ?_
    rintro e w3 ⟨rfl, rfl⟩
    have HG3 := hid (HP.out.good HG.out HB.out)
    obtain ⟨q, hq⟩ : ∃ q, (!ok && m'.isNil) = q := ⟨_, rfl⟩
    have HQ := hid hq
    rw [hq]
    clear hq
    cases q with
    | true =>
      go_wp2_with fail
      refine (delete_any b c l m' r v ok base _ HG3.out).mono ?_
      rintro e w4 ⟨rfl, hdel⟩
      have HD := hid hdel
      clear hdel
      go_wp2_with fail
      go_ret
      exact ⟨_, rfl, by rw [HRX.out, del_raw, HN.out]; exact (if_pos (by rw [← HN.out, unused_raw]; exact HQ.out)).symm, HP.out.then HD.out⟩
    | false =>
      go_wp2_with fail
      go_ret
      exact ⟨.node b c l m' r v ok, rfl, by rw [HRX.out, HN.out]; exact (if_neg (by rw [← HN.out, unused_raw, HQ.out]; simp)).symm, HP.out⟩
  · have h3i : decide ((d : Int) < (s.size : Int) - 1) = false := decide_eq_false (by omega)
    have h3' : ¬ (d : Int) < (s.size : Int) - 1 := by omega
    have HRX : Hid (T.rem (N.node b c l m r v ok).raw (suf s d) = T.trim (T.node c l.raw m.raw r.raw 0 false)) := by
      rw [HX.out, suf_nil s (d + 1) (by omega)]; exact hid (rem_eq.trans ((if_neg h1).trans (if_neg h2)))
    clear h1 h2 h3
    have H4 : Hid (Put (.node b c l m r v ok) (.node b c l m r 0 ok) w (w.setCell ⟨b, 4, none⟩ (.int .i64 0))) := hid (Put.cell HG.out rfl)
    have HG4 := hid (H4.out.good HG.out HB.out)
    have H5 : Hid (Put (.node b c l m r 0 ok) (.node b c l m r 0 false) (w.setCell ⟨b, 4, none⟩ (.int .i64 0)) ((w.setCell ⟨b, 4, none⟩ (.int .i64 0)).setCell ⟨b, 5, none⟩ (.bool false))) := hid (Put.cell HG4.out rfl)
    have HP := hid (H4.out.then H5.out)
    have d4 : w.cell? ⟨b, 4, none⟩ = some (.int .i64 v) := HG.out.mem.1.cell 4
    have d5 : w.cell? ⟨b, 5, none⟩ = some (.bool ok) := HG.out.mem.1.cell 5
    have f4 : w.frozen? ⟨b, 4, none⟩ = false := HG.out.mem.1.free 4
    have f5 : w.frozen? ⟨b, 5, none⟩ = false := HG.out.mem.1.free 5
    have HN : Hid ((N.node b c l m r 0 false).raw = T.node c l.raw m.raw r.raw 0 false) := hid rfl
    go_enter Try.func62, Try.ntmps62
    go_wp2_with fail
    refine (isUnused_any b c l m r 0 false _ HP.out.mem).mono ?_
    rintro e w3 ⟨rfl, rfl⟩
    have HG3 := hid (HP.out.good HG.out HB.out)
    obtain ⟨q, hq⟩ : ∃ q, (!false && m.isNil) = q := ⟨_, rfl⟩
    have HQ := hid hq
    rw [hq]
    clear hq
    cases q with
    | true =>
      go_wp2_with fail
      refine (delete_any b c l m r 0 false base _ HG3.out).mono ?_
      rintro e w4 ⟨rfl, hdel⟩
      have HD := hid hdel
      clear hdel
      go_wp2_with fail
      go_ret
      exact ⟨_, rfl, by rw [HRX.out, del_raw, HN.out]; exact (if_pos (by rw [← HN.out, unused_raw]; exact HQ.out)).symm, HP.out.then HD.out⟩
    | false =>
      go_wp2_with fail
      go_ret
      exact ⟨.node b c l m r 0 false, rfl, by rw [HRX.out, HN.out]; exact (if_neg (by rw [← HN.out, unused_raw, HQ.out]; simp)).symm, HP.out⟩

theorem rem_any (base : Nat) (s : ByteArray) (Tb : Option Addr) (hs : s.size ≤ 1099511627776) : ∀ (n d : Nat), s.size = d + 1 + n → ∀ t : N, RemC base s Tb d t := by
  intro n
  induction n with
  | zero =>
    intro d hd t
    induction t with
    | nil => exact rem_nil base s Tb d
    | node b c l m r v ok ihl _ ihr => exact rem_node base s Tb d b c l m r v ok (by omega) hs ihl ihr (fun h => by omega)
  | succ n ih =>
    intro d hd t
    induction t with
    | nil => exact rem_nil base s Tb d
    | node b c l m r v ok ihl _ ihr => exact rem_node base s Tb d b c l m r v ok (by omega) hs ihl ihr (fun _ => ih (d + 1) (by omega) m)
end Go.Proofs.Ytkgbflcbeeghoaa.Trie
