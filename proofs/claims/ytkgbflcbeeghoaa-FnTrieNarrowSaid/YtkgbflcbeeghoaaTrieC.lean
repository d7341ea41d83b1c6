/- Ternary search tries in memory: a word put. For every trie and every word. -/
import Derived.Test.YtkgbflcbeeghoaaTrieB
namespace Go.Proofs.Ytkgbflcbeeghoaa.Trie
open Go Go.RowKit Go.Proofs.Ytkgbflcbeeghoaa.Hk Go.Proofs.Ytkgbflcbeeghoaa.TriePure

theorem put_eq {val : Int} {c : UInt8} {l m r : T} {v : Int} {ok : Bool} {k : UInt8} {ks : W} : T.put val (.node c l m r v ok) (k :: ks) =
    if k < c then .node c (T.put val l (k :: ks)) m r v ok else if c < k then .node c l m (T.put val r (k :: ks)) v ok else match ks with
      | [] => .node c l m r val true
      | k2 :: ks2 => .node c l (T.put val m (k2 :: ks2)) r v ok := by cases ks <;> rfl
/-- What put leaves. -/
def Putted (val : Int) (t : N) (ks : W) (w : World) (e : Ending) (w' : World) : Prop := ∃ t' : N, e = .returned t'.ptr ∧ t'.raw = T.put val t.raw ks ∧ Put t t' w w'
def PutC (base : Nat) (s : ByteArray) (val : Int) (Tb : Option Addr) (d : Nat) (t : N) : Prop :=
  ∀ w, Good base w t → base ≤ w.heap.size → Calls Try.prog 61 #[.pointer Tb, t.ptr, .string s, .int .i64 val, .int .i64 (d : Int)] w (Putted val t (suf s d) w)

set_option maxHeartbeats 8000000 in
set_option maxRecDepth 100000 in
theorem put_nil (base : Nat) (s : ByteArray) (val : Int) (Tb : Option Addr) (d : Nat) (hd : d < s.size) (hs : s.size ≤ 1099511627776) (hm : d + 1 < s.size → PutC base s val Tb (d + 1) .nil) : PutC base s val Tb d .nil := by
  intro w _ hb
  have HX := hid (suf_cons s d hd)
  have HB := hid hb
  show Calls Try.prog 61 #[.pointer Tb, .pointer none, .string s, .int .i64 val, .int .i64 (d : Int)] w _
  go_enter Try.func61, Try.ntmps61
  go_upto_region 4 with fail
  have H0 : Hid (Put .nil (.node w.heap.size s[d] .nil .nil .nil 0 false) w (w.alloc (.cells (cells s[d] (.pointer none) (.pointer none) (.pointer none) 0 false) 115))) :=
    hid ⟨⟨Blk.new _ _ _, trivial, trivial, trivial⟩, by simp [N.ids], fun x hx => .inr (by simp [N.ids] at hx; omega), (Fr.refl _ _).alloc _⟩
  have HG : Hid (Good base (w.alloc (.cells (cells s[d] (.pointer none) (.pointer none) (.pointer none) 0 false) 115)) (.node w.heap.size s[d] .nil .nil .nil 0 false) ∧ base ≤ (w.alloc (.cells (cells s[d] (.pointer none) (.pointer none) (.pointer none) 0 false) 115)).heap.size) :=
    hid ⟨⟨H0.out.mem, H0.out.nodup, fun x hx => by simp [N.ids] at hx; omega⟩, by rw [Hk.alloc_size]; omega⟩
  change Code.wp _ _ _ _ (w.alloc (.cells (cells s[d] (.pointer none) (.pointer none) (.pointer none) 0 false) 115))
  generalize w.alloc (.cells (cells s[d] (.pointer none) (.pointer none) (.pointer none) 0 false) 115) = W0 at H0 HG ⊢
  generalize w.heap.size = q at H0 HG ⊢
  have HGB := hid HG.out.2
  replace HG := hid HG.out.1
  have c0 : W0.cell? ⟨q, 0, none⟩ = some (.int .u8 (s[d].toNat : Int)) := HG.out.mem.1.cell 0
  have c2 : W0.cell? ⟨q, 2, none⟩ = some (.pointer none) := HG.out.mem.1.cell 2
  by_cases h3 : d + 1 < s.size
  · have h3i : decide ((d : Int) < (s.size : Int) - 1) = true := decide_eq_true (by omega)
    have h3' : (d : Int) < (s.size : Int) - 1 := by omega
    have HRX : Hid (T.put val N.nil.raw (suf s d) = .node (s[d]) T.nil (T.put val T.nil (suf s (d + 1))) T.nil 0 false) := by
      rw [HX.out, suf_cons s (d + 1) h3]
      exact hid rfl
    have H3 := hid (hm h3)
    clear h3
    go_wp2_with fail
    refine (H3.out W0 HG.out.part_m HGB.out).mono ?_
    rintro e w1 ⟨m', rfl, hraw, hput⟩
    obtain ⟨hk, hset⟩ := Put.set_m HG.out hput
    have HP := hid hset
    have HR := hid hraw
    have d1 : w1.cell? ⟨q, 2, none⟩ = some (.pointer none) := hk.cell 2
    have f1 : w1.frozen? ⟨q, 2, none⟩ = false := hk.free 2
    obtain ⟨u, hu⟩ := m'.ptr_some
    rw [hu] at HP ⊢
    clear hk hset hput hraw hu
    go_wp2_with fail
    go_ret
    exact ⟨.node q (s[d]) .nil m' .nil 0 false, rfl, by rw [HRX.out]; exact congrArg (fun x => T.node _ _ x _ _ _) HR.out, (H0.out.then HP.out)⟩
  · have h3i : decide ((d : Int) < (s.size : Int) - 1) = false := decide_eq_false (by omega)
    have h3' : ¬ (d : Int) < (s.size : Int) - 1 := by omega
    have HRX : Hid (T.put val N.nil.raw (suf s d) = .node (s[d]) T.nil T.nil T.nil val true) := by
      rw [HX.out, suf_nil s (d + 1) (by omega)]
      exact hid rfl
    clear h3
    have H4 : Hid (Put (.node q (s[d]) .nil .nil .nil 0 false) (.node q (s[d]) .nil .nil .nil val false) W0 (W0.setCell ⟨q, 4, none⟩ (.int .i64 val))) := hid (Put.cell HG.out rfl)
    have HG4 := hid (H4.out.good HG.out HGB.out)
    have H5 : Hid (Put (.node q (s[d]) .nil .nil .nil val false) (.node q (s[d]) .nil .nil .nil val true) (W0.setCell ⟨q, 4, none⟩ (.int .i64 val)) ((W0.setCell ⟨q, 4, none⟩ (.int .i64 val)).setCell ⟨q, 5, none⟩ (.bool true))) := hid (Put.cell HG4.out rfl)
    have d4 : W0.cell? ⟨q, 4, none⟩ = some (.int .i64 0) := HG.out.mem.1.cell 4
    have d5 : W0.cell? ⟨q, 5, none⟩ = some (.bool false) := HG.out.mem.1.cell 5
    have f4 : W0.frozen? ⟨q, 4, none⟩ = false := HG.out.mem.1.free 4
    have f5 : W0.frozen? ⟨q, 5, none⟩ = false := HG.out.mem.1.free 5
    go_wp2_with fail
    go_ret
    exact ⟨.node q (s[d]) .nil .nil .nil val true, rfl, by rw [HRX.out]; rfl, (H0.out.then (H4.out.then H5.out))⟩

set_option maxHeartbeats 8000000 in
set_option maxRecDepth 100000 in
theorem put_node (base : Nat) (s : ByteArray) (val : Int) (Tb : Option Addr) (d : Nat) (b : Nat) (c : UInt8) (l m r : N) (v : Int) (ok : Bool) (hd : d < s.size) (hs : s.size ≤ 1099511627776) (hl : PutC base s val Tb d l) (hr : PutC base s val Tb d r) (hm : d + 1 < s.size → PutC base s val Tb (d + 1) m) :
    PutC base s val Tb d (.node b c l m r v ok) := by
  intro w g hb
  have HG := hid g
  have HX := hid (suf_cons s d hd)
  have HB := hid hb
  have HL := hid hl
  have HRR := hid hr
  have c0 : w.cell? ⟨b, 0, none⟩ = some (.int .u8 (c.toNat : Int)) := g.mem.1.cell 0
  have c1 : w.cell? ⟨b, 1, none⟩ = some l.ptr := g.mem.1.cell 1
  have c2 : w.cell? ⟨b, 2, none⟩ = some m.ptr := g.mem.1.cell 2
  have c3 : w.cell? ⟨b, 3, none⟩ = some r.ptr := g.mem.1.cell 3
  clear g hb hl hr
  show Calls Try.prog 61 #[.pointer Tb, .pointer (some ⟨b, 0, none⟩), .string s, .int .i64 val, .int .i64 (d : Int)] w _
  by_cases h1 : s[d] < c
  · have h1' : (s[d]).toNat < (c).toNat := u_lt.1 h1
    have h1i : decide (((s[d]).toNat : Int) < ((c).toNat : Int)) = true := decide_eq_true (by omega)
    have h1n : decide ((s[d]).toNat < (c).toNat) = true := decide_eq_true h1'
    have HRX : Hid (T.put val (N.node b c l m r v ok).raw (suf s d) = .node c (T.put val l.raw (suf s d)) m.raw r.raw v ok) := by
      rw [HX.out]; exact hid (put_eq.trans (if_pos h1))
    clear h1
    go_enter Try.func61, Try.ntmps61
    go_wp2_with fail
    refine (HL.out w HG.out.part_l HB.out).mono ?_
    rintro e w1 ⟨l', rfl, hraw, hput⟩
    obtain ⟨hk, hset⟩ := Put.set_l HG.out hput
    have HP := hid hset
    have HR := hid hraw
    have d1 : w1.cell? ⟨b, 1, none⟩ = some l.ptr := hk.cell 1
    have f1 : w1.frozen? ⟨b, 1, none⟩ = false := hk.free 1
    obtain ⟨u, hu⟩ := l'.ptr_some
    rw [hu] at HP ⊢
    have HU := hid hu
    clear hk hset hput hraw hu
    go_wp2_with fail
    go_ret
    exact ⟨.node b c l' m r v ok, rfl, by rw [HRX.out, ← HR.out]; rfl, HP.out⟩
  by_cases h2 : c < s[d]
  · have h2' : (c).toNat < (s[d]).toNat := u_lt.1 h2
    have h1' : ¬ (s[d]).toNat < (c).toNat := by omega
    have h1i : decide (((s[d]).toNat : Int) < ((c).toNat : Int)) = false := decide_eq_false (by omega)
    have h1n : decide ((s[d]).toNat < (c).toNat) = false := decide_eq_false h1'
    have h2i : decide (((c).toNat : Int) < ((s[d]).toNat : Int)) = true := decide_eq_true (by omega)
    have h2n : decide ((c).toNat < (s[d]).toNat) = true := decide_eq_true h2'
    have HRX : Hid (T.put val (N.node b c l m r v ok).raw (suf s d) = .node c l.raw m.raw (T.put val r.raw (suf s d)) v ok) := by
      rw [HX.out]; exact hid (put_eq.trans ((if_neg h1).trans (if_pos h2)))
    clear h1 h2
    go_enter Try.func61, Try.ntmps61
    go_wp2_with fail
    refine (HRR.out w HG.out.part_r HB.out).mono ?_
    rintro e w1 ⟨r', rfl, hraw, hput⟩
    obtain ⟨hk, hset⟩ := Put.set_r HG.out hput
    have HP := hid hset
    have HR := hid hraw
    have d1 : w1.cell? ⟨b, 3, none⟩ = some r.ptr := hk.cell 3
    have f1 : w1.frozen? ⟨b, 3, none⟩ = false := hk.free 3
    obtain ⟨u, hu⟩ := r'.ptr_some
    rw [hu] at HP ⊢
    have HU := hid hu
    clear hk hset hput hraw hu
    go_wp2_with fail
    go_ret
    exact ⟨.node b c l m r' v ok, rfl, by rw [HRX.out, ← HR.out]; rfl, HP.out⟩
  have h1' : ¬ (s[d]).toNat < (c).toNat := fun e => h1 (u_lt.2 e)
  have h2' : ¬ (c).toNat < (s[d]).toNat := fun e => h2 (u_lt.2 e)
  have h1i : decide (((s[d]).toNat : Int) < ((c).toNat : Int)) = false := decide_eq_false (by omega)
  have h1n : decide ((s[d]).toNat < (c).toNat) = false := decide_eq_false h1'
  have h2i : decide (((c).toNat : Int) < ((s[d]).toNat : Int)) = false := decide_eq_false (by omega)
  have h2n : decide ((c).toNat < (s[d]).toNat) = false := decide_eq_false h2'
  by_cases h3 : d + 1 < s.size
  · have h3i : decide ((d : Int) < (s.size : Int) - 1) = true := decide_eq_true (by omega)
    have h3' : (d : Int) < (s.size : Int) - 1 := by omega
    have HRX : Hid (T.put val (N.node b c l m r v ok).raw (suf s d) = .node (c) (l).raw (T.put val (m).raw (suf s (d + 1))) (r).raw v ok) := by
      rw [HX.out, suf_cons s (d + 1) h3]
      exact hid (put_eq.trans ((if_neg h1).trans (if_neg h2)))
    have H3 := hid (hm h3)
    clear h3 h1 h2
    go_enter Try.func61, Try.ntmps61
    go_wp2_with fail
    refine (H3.out w HG.out.part_m HB.out).mono ?_
    rintro e w1 ⟨m', rfl, hraw, hput⟩
    obtain ⟨hk, hset⟩ := Put.set_m HG.out hput
    have HP := hid hset
    have HR := hid hraw
    have d1 : w1.cell? ⟨b, 2, none⟩ = some (N.ptr (m)) := hk.cell 2
    have f1 : w1.frozen? ⟨b, 2, none⟩ = false := hk.free 2
    obtain ⟨u, hu⟩ := m'.ptr_some
    rw [hu] at HP ⊢
    clear hk hset hput hraw hu
    go_wp2_with fail
    go_ret
    exact ⟨.node b (c) l m' r v ok, rfl, by rw [HRX.out]; exact congrArg (fun x => T.node _ _ x _ _ _) HR.out, HP.out⟩
  · have h3i : decide ((d : Int) < (s.size : Int) - 1) = false := decide_eq_false (by omega)
    have h3' : ¬ (d : Int) < (s.size : Int) - 1 := by omega
    have HRX : Hid (T.put val (N.node b c l m r v ok).raw (suf s d) = .node (c) (l).raw (m).raw (r).raw val true) := by
      rw [HX.out, suf_nil s (d + 1) (by omega)]
      exact hid (put_eq.trans ((if_neg h1).trans (if_neg h2)))
    clear h3 h1 h2
    have H4 : Hid (Put (.node b (c) l m r v ok) (.node b (c) l m r val ok) w (w.setCell ⟨b, 4, none⟩ (.int .i64 val))) := hid (Put.cell HG.out rfl)
    have HG4 := hid (H4.out.good HG.out HB.out)
    have H5 : Hid (Put (.node b (c) l m r val ok) (.node b (c) l m r val true) (w.setCell ⟨b, 4, none⟩ (.int .i64 val)) ((w.setCell ⟨b, 4, none⟩ (.int .i64 val)).setCell ⟨b, 5, none⟩ (.bool true))) := hid (Put.cell HG4.out rfl)
    have d4 : w.cell? ⟨b, 4, none⟩ = some (.int .i64 v) := HG.out.mem.1.cell 4
    have d5 : w.cell? ⟨b, 5, none⟩ = some (.bool ok) := HG.out.mem.1.cell 5
    have f4 : w.frozen? ⟨b, 4, none⟩ = false := HG.out.mem.1.free 4
    have f5 : w.frozen? ⟨b, 5, none⟩ = false := HG.out.mem.1.free 5
    go_enter Try.func61, Try.ntmps61
    go_wp2_with fail
    go_ret
    exact ⟨.node b (c) l m r val true, rfl, by rw [HRX.out]; rfl, (H4.out.then H5.out)⟩

theorem put_any (base : Nat) (s : ByteArray) (val : Int) (Tb : Option Addr) (hs : s.size ≤ 1099511627776) : ∀ (n d : Nat), s.size = d + 1 + n → ∀ t : N, PutC base s val Tb d t := by
  intro n
  induction n with
  | zero =>
    intro d hd t
    induction t with
    | nil => exact put_nil base s val Tb d (by omega) hs (fun h => by omega)
    | node b c l m r v ok ihl _ ihr => exact put_node base s val Tb d b c l m r v ok (by omega) hs ihl ihr (fun h => by omega)
  | succ n ih =>
    intro d hd t
    induction t with
    | nil => exact put_nil base s val Tb d (by omega) hs (fun _ => ih (d + 1) (by omega) .nil)
    | node b c l m r v ok ihl _ ihr => exact put_node base s val Tb d b c l m r v ok (by omega) hs ihl ihr (fun _ => ih (d + 1) (by omega) m)
end Go.Proofs.Ytkgbflcbeeghoaa.Trie
