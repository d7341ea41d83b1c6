/- What the law's row stands on, part 2: contracts of functions, for the arguments and worlds that each one names. -/
import Derived.Test.YtmhnhfmkcipcpaaCkFnListRuns1
import Derived.RegionTactic
import Derived.ChangeAlike
import Derived.Deep.CutRange
import Derived.Deep.DeepCutAuto
import Derived.Test.YtmhnhfmkcipcpaaWTab
import Derived.Test.YtmhnhfmkcipcpaaProg
import Derived.Below
import Derived.Deep.Draws
import Derived.Deep.AppendLies
import Derived.Maps.AppendAt
import Derived.OwnWalk
import Derived.Laws.BytesArg
import Derived.Laws.MakeOwn
import Derived.Laws.OwnMore
import Derived.Deep.OwnRows
import Derived.Tactics
import Derived.Lib.ConvBytes
import Derived.Laws.Slices
import Derived.WalkKit
import Derived.KernelRfl
import Derived.RowKit3
import Derived.Deep.LoopGhost
import Derived.Deep.QuietTactic
import Derived.BigQuiet
import Derived.WideLaws
import Derived.Deep.CutBlock
import Derived.Deep.RegionHeld3
import Derived.Laws.Rows
import Derived.Lib.AppendStr
import Derived.ArgAppend
import Derived.Laws.IdiomCopy
import Derived.OrdersHeld
import Derived.Laws.BitsLemmas
import Derived.RowKit
import Derived.Laws.Cover1
import Derived.Test.YtmhnhfmkcipcpaaWWords
import Derived.Test.YtmhnhfmkcipcpaaWLast
import Derived.Test.YtmhnhfmkcipcpaaWFour
import Derived.Test.YtmhnhfmkcipcpaaWQPut
import Derived.Test.YtmhnhfmkcipcpaaWApart
import Derived.Test.YtmhnhfmkcipcpaaWArr
import Derived.Test.YtmhnhfmkcipcpaaWZeros
import Derived.Test.YtmhnhfmkcipcpaaWFoot
import Derived.Test.YtmhnhfmkcipcpaaWKept
import Derived.Test.YtmhnhfmkcipcpaaWShare
import Derived.Test.YtmhnhfmkcipcpaaWN
import Derived.Test.YtmhnhfmkcipcpaaWFootNe
import Derived.Test.YtmhnhfmkcipcpaaWAt
import Derived.Test.YtmhnhfmkcipcpaaWEqStruct
import Derived.Test.YtmhnhfmkcipcpaaWRepsOne
import Derived.Test.YtmhnhfmkcipcpaaWInv
import Derived.Test.YtmhnhfmkcipcpaaWInvWords
import Derived.Test.YtmhnhfmkcipcpaaWGuard
import Derived.Test.YtmhnhfmkcipcpaaWNEv
import Derived.Test.YtmhnhfmkcipcpaaWMore
namespace Go.Proofs.Ytmhnhfmkcipcpaa.LineDo
open Go Go.RowKit Go.Deep Go.Proofs.Ytmhnhfmkcipcpaa.Hk Go.Proofs.Ytmhnhfmkcipcpaa.Heap Go.Proofs.Ytmhnhfmkcipcpaa.Stack Go.Proofs.Ytmhnhfmkcipcpaa.Seen Go.Proofs.Ytmhnhfmkcipcpaa.Lists Go.Proofs.Ytmhnhfmkcipcpaa.LnFn Go.Proofs.YtmhnhfmkcipcpaaW.PrintWords Go.Proofs.YtmhnhfmkcipcpaaW.PrintLast Go.Proofs.YtmhnhfmkcipcpaaW.PrintMore
def ld25.T : Bool × List (List Nat × List Nat) := (true, [([], []), ([], []), ([1], [1]), ([0, 2], [0, 2]), ([], []), ([4], [4]), ([5], [5]), ([3, 6, 3], [3, 6]), ([0, 1, 2, 3, 4, 5, 6, 7], []), ([8, 7, 7, 0, 1, 2, 3, 4, 5, 6, 7], [7, 8])])
def ld25.B : List Nat := [0, 0, 2, 7, 0, 16, 48, 127, 255, 511]
theorem ld25.tab : rtab .any (opsOf Try.f39 25) = ld25.T := by kernel_rfl
theorem ld25.bits : waitsOk ld25.T.2 ld25.B = true := by kernel_rfl
set_option maxHeartbeats 16000000 in
set_option maxRecDepth 100000 in
theorem do7 (w : World) (VA RA : Option Addr) (VC RC : Nat) (vals row : List Int) (o key val : Int) (at0 : Int) (k0 : Nat) (hV : Lies w (VA, vals.length, VC) vals) (hR : Lies w (RA, row.length, RC) row) (hl : vals.length ≤ 1099511627776 ∧ row.length ≤ 1099511627776) (hat : spec_lineAt.f k0 row val = some at0) (hat0 : 0 ≤ at0 ∧ at0 ≤ row.length) (kr : Nat) (ks : List Int) (hrow : spec_lineRow.f kr vals (row.drop at0.toNat) = some ks) :
    Calls Try.prog 39 #[.agg #[.slice VA vals.length VC, .slice RA row.length RC], .agg #[.int .i64 o, .int .i64 7, .int .i64 key, .int .i64 val]] w fun e w' => ∃ vp rp kv, e = .returned (.tuple #[.agg #[slV vp, slV rp], .agg #[.int .i64 0, .bool false, kv, .slice none 0 0]]) ∧
      Lies w' vp (vals) ∧ Lies w' rp (row) ∧ Ro w' w.heap.size kv (ks) ∧ Below w.heap.size w w' := by
  have H0 : Hid (Dn w.heap.size w (((((w.alloc (.cells #[.slice VA vals.length VC, .slice RA row.length RC] 61)).alloc (.cells #[.int .i64 o, .int .i64 7, .int .i64 key, .int .i64 val] 27)).alloc (.cells NL 61)).alloc (.cells (F4k (.slice none 0 0)) 34)).alloc (.cells (F4k (.slice none 0 0)) 34)) (VA, vals.length, VC) (RA, row.length, RC) vals row (.slice none 0 0) []) := hid (Dn.start #[.int .i64 o, .int .i64 7, .int .i64 key, .int .i64 val] hV hR)
  have HS0 : Hid (Blk (((((w.alloc (.cells #[.slice VA vals.length VC, .slice RA row.length RC] 61)).alloc (.cells #[.int .i64 o, .int .i64 7, .int .i64 key, .int .i64 val] 27)).alloc (.cells NL 61)).alloc (.cells (F4k (.slice none 0 0)) 34)).alloc (.cells (F4k (.slice none 0 0)) 34)) (w.heap.size + 1) #[.int .i64 o, .int .i64 7, .int .i64 key, .int .i64 val] 27) := by
    have h_ := Blk.new (w.alloc (.cells #[.slice VA vals.length VC, .slice RA row.length RC] 61)) #[.int .i64 o, .int .i64 7, .int .i64 key, .int .i64 val] 27
    rw [Hk.alloc_size] at h_
    exact hid (((h_.alloc _).alloc _).alloc _)
  have HL := hid hl
  have HAT := hid hat
  clear hV hR hl hat
  go_enter Try.func39, Try.ntmps39
  go_upto_region 2 with fail
  change Code.wp _ _ _ _ (((((w.alloc (.cells #[.slice VA vals.length VC, .slice RA row.length RC] 61)).alloc (.cells #[.int .i64 o, .int .i64 7, .int .i64 key, .int .i64 val] 27)).alloc (.cells NL 61)).alloc (.cells (F4k (.slice none 0 0)) 34)).alloc (.cells (F4k (.slice none 0 0)) 34))
  generalize (((((w.alloc (.cells #[.slice VA vals.length VC, .slice RA row.length RC] 61)).alloc (.cells #[.int .i64 o, .int .i64 7, .int .i64 key, .int .i64 val] 27)).alloc (.cells NL 61)).alloc (.cells (F4k (.slice none 0 0)) 34)).alloc (.cells (F4k (.slice none 0 0)) 34)) = W0 at H0 HS0 ⊢
  obtain ⟨s, hs⟩ : ∃ s, w.heap.size = s := ⟨_, rfl⟩
  rw [hs] at H0 HS0 ⊢
  have c1 : W0.cell? ⟨s, 1, none⟩ = some (.slice RA row.length RC) := H0.out.x2.cell 1
  have k3 : W0.cell? ⟨s + 1, 3, none⟩ = some (.int .i64 val) := HS0.out.cell 3
  go_upto_region 3 with ((go_at_call 67; refine (spec_lineAt.calls k0 RA RC row val at0 W0 H0.out.lr.cells H0.out.lr.cap HAT.out).mono ?_; rintro e w' ⟨rfl, ⟨n, rfl⟩⟩))
  have H1 := hid (H0.out.drewN n)
  have HS1 : Hid (Blk (W0.drewN n) (s + 1) #[.int .i64 o, .int .i64 7, .int .i64 key, .int .i64 val] 27) := hid (HS0.out.drewN n)
  clear H0 HS0 c1 k3
  generalize W0.drewN n = W at H1 HS1 ⊢
  have k1 : W.cell? ⟨s + 1, 1, none⟩ = some (.int .i64 7) := HS1.out.cell 1
  have HROW := hid hrow
  have HAT0 := hid hat0
  clear hrow hat0
  have c0 : W.cell? ⟨s, 0, none⟩ = some (.slice VA vals.length VC) := H1.out.x2.cell 0
  have c1 : W.cell? ⟨s, 1, none⟩ = some (.slice RA row.length RC) := H1.out.x2.cell 1
  obtain ⟨i3, hi3, _, hsz3, _⟩ := info_parts Heap.info3
  obtain ⟨A2, hcut, hA2, hC2⟩ := print_drop_of (P := Try.prog) (Value.int .i64) 0 30 3 .i64 Try.underlying30 hi3 hsz3 RA RC row at0 (by have := HAT0.out; omega) (by have := HAT0.out; omega) H1.out.lr.cap
  have HC2 : Hid (Kd.C (Kd.int .i64) W A2 (row.drop (at0 : Int).toNat).length (row.drop (at0 : Int).toNat)) := hid (Kd.C_of_reads (h1 := fun _ => rfl) (hA2 W (Kd.reads_of_C H1.out.lr.cells)))
  obtain ⟨ys, hys⟩ : ∃ ys, row.drop (at0 : Int).toNat = ys := ⟨_, rfl⟩
  rw [hys] at HC2 HROW hcut hC2
  obtain ⟨C2, hc2⟩ : ∃ C2, RC - (at0 : Int).toNat = C2 := ⟨_, rfl⟩
  rw [hc2] at hcut hC2
  clear hc2
  have HCC := hid hC2
  clear hys hC2 hA2 hi3 hsz3
  go_upto_region 21 with fail
  go_still_tail 6, (by kernel_rfl)
  change wpList _ _ _ _ _ W.drew
  have HD := hid (H1.out.drewN 1)
  have HCD : Hid (Kd.C (Kd.int .i64) W.drew A2 ys.length ys) := hid (Kd.C_drew HC2.out)
  clear H1 HS1 HC2
  generalize hWd : W.drew = Wd at HCD ⊢
  change Hid (Dn s w W.drew _ _ _ _ _ _) at HD
  rw [hWd] at HD
  clear hWd hcut c0 c1 k1
  go_wp2_with fail
  refine (spec_lineRow.calls kr VA VC vals A2 C2 ys ks Wd HD.out.lv.cells HD.out.lv.cap HCD.out HCC.out HROW.out).mono ?_
  rintro e W2 ⟨v0, rfl, hO, hB⟩
  obtain ⟨KA, KC, rfl⟩ := Kd.R_slice hO
  have H2 := hid (HD.out.later hB)
  have HO : Hid (Ro W2 s (.slice KA ks.length KC) ks) := hid (Kd.R_lower hO (by have := HD.out.lt; omega))
  clear hO hB
  clear HD HCD
  have z1 : W2.cell? ⟨s + 1 + 1 + 1 + 1, 2, none⟩ = some (.slice none 0 0) := H2.out.x6.cell 2
  have z2 : W2.frozen? ⟨s + 1 + 1 + 1 + 1, 2, none⟩ = false := H2.out.x6.free 2
  have H3 := hid (H2.out.told HO.out)
  clear H2 HO
  go_upto_region 26 with fail
  clear z1 z2
  change Code.wp _ _ _ _ (W2.setCell ⟨s + 4, 2, none⟩ (.slice KA ks.length KC))
  generalize W2.setCell ⟨s + 4, 2, none⟩ (.slice KA ks.length KC) = W3 at H3 ⊢
  have a0 : W3.cell? ⟨s, 0, none⟩ = some (.slice VA vals.length VC) := H3.out.x2.cell 0
  have a1 : W3.cell? ⟨s, 1, none⟩ = some (.slice RA row.length RC) := H3.out.x2.cell 1
  have b0 : W3.cell? ⟨s + 1 + 1 + 1 + 1, 0, none⟩ = some (.int .i64 0) := H3.out.x6.cell 0
  have b1 : W3.cell? ⟨s + 1 + 1 + 1 + 1, 1, none⟩ = some (.bool false) := H3.out.x6.cell 1
  have b2 : W3.cell? ⟨s + 1 + 1 + 1 + 1, 2, none⟩ = some (.slice KA ks.length KC) := H3.out.x6.cell 2
  have b3 : W3.cell? ⟨s + 1 + 1 + 1 + 1, 3, none⟩ = some (.slice none 0 0) := H3.out.x6.cell 3
  have d0 : W3.cell? ⟨s + 1 + 1, 0, none⟩ = some (.slice none 0 0) := H3.out.x4.cell 0
  have e0 : W3.frozen? ⟨s + 1 + 1, 0, none⟩ = false := H3.out.x4.free 0
  have d1 : W3.cell? ⟨s + 1 + 1, 1, none⟩ = some (.slice none 0 0) := H3.out.x4.cell 1
  have e1 : W3.frozen? ⟨s + 1 + 1, 1, none⟩ = false := H3.out.x4.free 1
  have f0 : W3.cell? ⟨s + 1 + 1 + 1, 0, none⟩ = some (.int .i64 0) := H3.out.x5.cell 0
  have g0 : W3.frozen? ⟨s + 1 + 1 + 1, 0, none⟩ = false := H3.out.x5.free 0
  have f1 : W3.cell? ⟨s + 1 + 1 + 1, 1, none⟩ = some (.bool false) := H3.out.x5.cell 1
  have g1 : W3.frozen? ⟨s + 1 + 1 + 1, 1, none⟩ = false := H3.out.x5.free 1
  have f2 : W3.cell? ⟨s + 1 + 1 + 1, 2, none⟩ = some (.slice none 0 0) := H3.out.x5.cell 2
  have g2 : W3.frozen? ⟨s + 1 + 1 + 1, 2, none⟩ = false := H3.out.x5.free 2
  have f3 : W3.cell? ⟨s + 1 + 1 + 1, 3, none⟩ = some (.slice none 0 0) := H3.out.x5.cell 3
  have g3 : W3.frozen? ⟨s + 1 + 1 + 1, 3, none⟩ = false := H3.out.x5.free 3
  go_upto_region 26 with fail
  go_region
  go_wp2_with fail
  refine bodyPost_ret (v := .tuple #[.agg #[.slice VA vals.length VC, .slice RA row.length RC], .agg #[.int .i64 0, .bool false, .slice KA ks.length KC, .slice none 0 0]]) (by simp [results, Try.results39, go_sem, d0, d1, f0, f1, f2, f3]) rfl ?_
  obtain ⟨r1, r2, r3, r4⟩ := H3.out.fin (W1 := _) (fin_fr _ (.slice VA vals.length VC) (.slice RA row.length RC) (.int .i64 0) (.bool false) (.slice KA ks.length KC) (.slice none 0 0))
  exact ⟨(VA, vals.length, VC), (RA, row.length, RC), .slice KA ks.length KC, rfl, r1, r2, by rw [hs]; exact r3, by rw [hs]; exact r4⟩
set_option maxHeartbeats 16000000 in
set_option maxRecDepth 100000 in
theorem do8 (w : World) (VA RA : Option Addr) (VC RC : Nat) (vals row : List Int) (o key val : Int) (at0 : Int) (k0 : Nat) (hV : Lies w (VA, vals.length, VC) vals) (hR : Lies w (RA, row.length, RC) row) (hl : vals.length ≤ 1099511627776 ∧ row.length ≤ 1099511627776) (hat : spec_lineAt.f k0 row val = some at0) (hat0 : 0 ≤ at0 ∧ at0 < row.length) (kr kt : Nat) (ks1 ks : List Int) (hrow : spec_lineRow.f kr vals (row.take (at0 + 1).toNat) = some ks1) (hturn : spec_lineTurned.f kt ks1 = some ks) :
    Calls Try.prog 39 #[.agg #[.slice VA vals.length VC, .slice RA row.length RC], .agg #[.int .i64 o, .int .i64 8, .int .i64 key, .int .i64 val]] w fun e w' => ∃ vp rp kv, e = .returned (.tuple #[.agg #[slV vp, slV rp], .agg #[.int .i64 0, .bool false, kv, .slice none 0 0]]) ∧
      Lies w' vp (vals) ∧ Lies w' rp (row) ∧ Ro w' w.heap.size kv (ks) ∧ Below w.heap.size w w' := by
  have H0 : Hid (Dn w.heap.size w (((((w.alloc (.cells #[.slice VA vals.length VC, .slice RA row.length RC] 61)).alloc (.cells #[.int .i64 o, .int .i64 8, .int .i64 key, .int .i64 val] 27)).alloc (.cells NL 61)).alloc (.cells (F4k (.slice none 0 0)) 34)).alloc (.cells (F4k (.slice none 0 0)) 34)) (VA, vals.length, VC) (RA, row.length, RC) vals row (.slice none 0 0) []) := hid (Dn.start #[.int .i64 o, .int .i64 8, .int .i64 key, .int .i64 val] hV hR)
  have HS0 : Hid (Blk (((((w.alloc (.cells #[.slice VA vals.length VC, .slice RA row.length RC] 61)).alloc (.cells #[.int .i64 o, .int .i64 8, .int .i64 key, .int .i64 val] 27)).alloc (.cells NL 61)).alloc (.cells (F4k (.slice none 0 0)) 34)).alloc (.cells (F4k (.slice none 0 0)) 34)) (w.heap.size + 1) #[.int .i64 o, .int .i64 8, .int .i64 key, .int .i64 val] 27) := by
    have h_ := Blk.new (w.alloc (.cells #[.slice VA vals.length VC, .slice RA row.length RC] 61)) #[.int .i64 o, .int .i64 8, .int .i64 key, .int .i64 val] 27
    rw [Hk.alloc_size] at h_
    exact hid (((h_.alloc _).alloc _).alloc _)
  have HL := hid hl
  have HAT := hid hat
  clear hV hR hl hat
  go_enter Try.func39, Try.ntmps39
  go_upto_region 2 with fail
  change Code.wp _ _ _ _ (((((w.alloc (.cells #[.slice VA vals.length VC, .slice RA row.length RC] 61)).alloc (.cells #[.int .i64 o, .int .i64 8, .int .i64 key, .int .i64 val] 27)).alloc (.cells NL 61)).alloc (.cells (F4k (.slice none 0 0)) 34)).alloc (.cells (F4k (.slice none 0 0)) 34))
  generalize (((((w.alloc (.cells #[.slice VA vals.length VC, .slice RA row.length RC] 61)).alloc (.cells #[.int .i64 o, .int .i64 8, .int .i64 key, .int .i64 val] 27)).alloc (.cells NL 61)).alloc (.cells (F4k (.slice none 0 0)) 34)).alloc (.cells (F4k (.slice none 0 0)) 34)) = W0 at H0 HS0 ⊢
  obtain ⟨s, hs⟩ : ∃ s, w.heap.size = s := ⟨_, rfl⟩
  rw [hs] at H0 HS0 ⊢
  have c1 : W0.cell? ⟨s, 1, none⟩ = some (.slice RA row.length RC) := H0.out.x2.cell 1
  have k3 : W0.cell? ⟨s + 1, 3, none⟩ = some (.int .i64 val) := HS0.out.cell 3
  go_upto_region 3 with ((go_at_call 67; refine (spec_lineAt.calls k0 RA RC row val at0 W0 H0.out.lr.cells H0.out.lr.cap HAT.out).mono ?_; rintro e w' ⟨rfl, ⟨n, rfl⟩⟩))
  have H1 := hid (H0.out.drewN n)
  have HS1 : Hid (Blk (W0.drewN n) (s + 1) #[.int .i64 o, .int .i64 8, .int .i64 key, .int .i64 val] 27) := hid (HS0.out.drewN n)
  clear H0 HS0 c1 k3
  generalize W0.drewN n = W at H1 HS1 ⊢
  have k1 : W.cell? ⟨s + 1, 1, none⟩ = some (.int .i64 8) := HS1.out.cell 1
  obtain ⟨j1, hj1⟩ : ∃ j1, at0 + 1 = j1 := ⟨_, rfl⟩
  rw [hj1] at hrow
  have hji : IntKind.i64.wrap (at0 + 1) = j1 := by have h_ := HL.out; rw [i64_w, LineEv.wi _ (by omega) (by omega)]; exact hj1
  have HAT0 : Hid (0 ≤ j1 ∧ j1 ≤ row.length) := hid (by omega)
  have HROW := hid hrow
  have HTURN := hid hturn
  clear hrow hturn hat0 hj1
  have c0 : W.cell? ⟨s, 0, none⟩ = some (.slice VA vals.length VC) := H1.out.x2.cell 0
  have c1 : W.cell? ⟨s, 1, none⟩ = some (.slice RA row.length RC) := H1.out.x2.cell 1
  obtain ⟨i3, hi3, _, hsz3, _⟩ := info_parts Heap.info3
  obtain ⟨hcut, hA2, hC2⟩ := print_take_of (P := Try.prog) (Value.int .i64) 0 30 3 .i64 Try.underlying30 hi3 hsz3 RA RC row j1 (by have := HAT0.out; omega) (by have := HAT0.out; omega) H1.out.lr.cap
  have HC2 : Hid (Kd.C (Kd.int .i64) W RA (row.take (j1 : Int).toNat).length (row.take (j1 : Int).toNat)) := hid (Kd.C_of_reads (h1 := fun _ => rfl) (hA2 W (Kd.reads_of_C H1.out.lr.cells)))
  obtain ⟨ys, hys⟩ : ∃ ys, row.take (j1 : Int).toNat = ys := ⟨_, rfl⟩
  rw [hys] at HC2 HROW hcut hC2
  have HCC := hid hC2
  clear hys hC2 hA2 hi3 hsz3
  go_upto_region 23 with fail
  go_still_tail 7, (by kernel_rfl)
  change wpList _ _ _ _ _ W.drew
  have HD := hid (H1.out.drewN 1)
  have HCD : Hid (Kd.C (Kd.int .i64) W.drew RA ys.length ys) := hid (Kd.C_drew HC2.out)
  clear H1 HS1 HC2
  generalize hWd : W.drew = Wd at HCD ⊢
  change Hid (Dn s w W.drew _ _ _ _ _ _) at HD
  rw [hWd] at HD
  clear hWd hcut c0 c1 k1 hji
  go_wp2_with fail
  refine (spec_lineRow.calls kr VA VC vals RA RC ys ks1 Wd HD.out.lv.cells HD.out.lv.cap HCD.out HCC.out HROW.out).mono ?_
  rintro e W2 ⟨v0, rfl, hO, hB⟩
  obtain ⟨KA, KC, rfl⟩ := Kd.R_slice hO
  have H2 := hid (HD.out.later hB)
  have HO : Hid (Ro W2 s (.slice KA ks1.length KC) ks1) := hid (Kd.R_lower hO (by have := HD.out.lt; omega))
  clear hO hB
  clear HD HCD
  go_wp2_with fail
  refine (spec_lineTurned.calls kt KA KC ks1 ks W2 (Kd.R_reads' HO.out).2.2 (Kd.R_reads' HO.out).2.1 HTURN.out).mono ?_
  rintro e W4 ⟨v1, rfl, hO, hB⟩
  obtain ⟨LA, LC, rfl⟩ := Kd.R_slice hO
  have H4 := hid (H2.out.later hB)
  have HO4 : Hid (Ro W4 s (.slice LA ks.length LC) ks) := hid (Kd.R_lower hO (by have := H2.out.lt; omega))
  clear hO hB HO H2
  have HO := HO4
  clear HO4
  have z1 : W4.cell? ⟨s + 1 + 1 + 1 + 1, 2, none⟩ = some (.slice none 0 0) := H4.out.x6.cell 2
  have z2 : W4.frozen? ⟨s + 1 + 1 + 1 + 1, 2, none⟩ = false := H4.out.x6.free 2
  have H3 := hid (H4.out.told HO.out)
  clear H4 HO
  go_upto_region 26 with fail
  clear z1 z2
  change Code.wp _ _ _ _ (W4.setCell ⟨s + 4, 2, none⟩ (.slice LA ks.length LC))
  generalize W4.setCell ⟨s + 4, 2, none⟩ (.slice LA ks.length LC) = W3 at H3 ⊢
  have a0 : W3.cell? ⟨s, 0, none⟩ = some (.slice VA vals.length VC) := H3.out.x2.cell 0
  have a1 : W3.cell? ⟨s, 1, none⟩ = some (.slice RA row.length RC) := H3.out.x2.cell 1
  have b0 : W3.cell? ⟨s + 1 + 1 + 1 + 1, 0, none⟩ = some (.int .i64 0) := H3.out.x6.cell 0
  have b1 : W3.cell? ⟨s + 1 + 1 + 1 + 1, 1, none⟩ = some (.bool false) := H3.out.x6.cell 1
  have b2 : W3.cell? ⟨s + 1 + 1 + 1 + 1, 2, none⟩ = some (.slice LA ks.length LC) := H3.out.x6.cell 2
  have b3 : W3.cell? ⟨s + 1 + 1 + 1 + 1, 3, none⟩ = some (.slice none 0 0) := H3.out.x6.cell 3
  have d0 : W3.cell? ⟨s + 1 + 1, 0, none⟩ = some (.slice none 0 0) := H3.out.x4.cell 0
  have e0 : W3.frozen? ⟨s + 1 + 1, 0, none⟩ = false := H3.out.x4.free 0
  have d1 : W3.cell? ⟨s + 1 + 1, 1, none⟩ = some (.slice none 0 0) := H3.out.x4.cell 1
  have e1 : W3.frozen? ⟨s + 1 + 1, 1, none⟩ = false := H3.out.x4.free 1
  have f0 : W3.cell? ⟨s + 1 + 1 + 1, 0, none⟩ = some (.int .i64 0) := H3.out.x5.cell 0
  have g0 : W3.frozen? ⟨s + 1 + 1 + 1, 0, none⟩ = false := H3.out.x5.free 0
  have f1 : W3.cell? ⟨s + 1 + 1 + 1, 1, none⟩ = some (.bool false) := H3.out.x5.cell 1
  have g1 : W3.frozen? ⟨s + 1 + 1 + 1, 1, none⟩ = false := H3.out.x5.free 1
  have f2 : W3.cell? ⟨s + 1 + 1 + 1, 2, none⟩ = some (.slice none 0 0) := H3.out.x5.cell 2
  have g2 : W3.frozen? ⟨s + 1 + 1 + 1, 2, none⟩ = false := H3.out.x5.free 2
  have f3 : W3.cell? ⟨s + 1 + 1 + 1, 3, none⟩ = some (.slice none 0 0) := H3.out.x5.cell 3
  have g3 : W3.frozen? ⟨s + 1 + 1 + 1, 3, none⟩ = false := H3.out.x5.free 3
  go_upto_region 26 with fail
  go_region
  go_wp2_with fail
  refine bodyPost_ret (v := .tuple #[.agg #[.slice VA vals.length VC, .slice RA row.length RC], .agg #[.int .i64 0, .bool false, .slice LA ks.length LC, .slice none 0 0]]) (by simp [results, Try.results39, go_sem, d0, d1, f0, f1, f2, f3]) rfl ?_
  obtain ⟨r1, r2, r3, r4⟩ := H3.out.fin (W1 := _) (fin_fr _ (.slice VA vals.length VC) (.slice RA row.length RC) (.int .i64 0) (.bool false) (.slice LA ks.length LC) (.slice none 0 0))
  exact ⟨(VA, vals.length, VC), (RA, row.length, RC), .slice LA ks.length LC, rfl, r1, r2, by rw [hs]; exact r3, by rw [hs]; exact r4⟩
set_option maxHeartbeats 16000000 in
set_option maxRecDepth 100000 in
theorem do9 (w : World) (VA RA : Option Addr) (VC RC : Nat) (vals row : List Int) (o key val : Int) (at0 : Int) (k0 : Nat) (hV : Lies w (VA, vals.length, VC) vals) (hR : Lies w (RA, row.length, RC) row) (hl : vals.length ≤ 1099511627776 ∧ row.length ≤ 1099511627776) (hat : spec_lineAt.f k0 row val = some at0) :
    Calls Try.prog 39 #[.agg #[.slice VA vals.length VC, .slice RA row.length RC], .agg #[.int .i64 o, .int .i64 9, .int .i64 key, .int .i64 val]] w fun e w' => ∃ vp rp kv, e = .returned (.tuple #[.agg #[slV vp, slV rp], .agg #[.int .i64 0, .bool false, kv, .slice none 0 0]]) ∧
      Lies w' vp (vals ++ [key]) ∧ Lies w' rp (row) ∧ Ro w' w.heap.size kv ([]) ∧ Below w.heap.size w w' := by
  have H0 : Hid (Dn w.heap.size w (((((w.alloc (.cells #[.slice VA vals.length VC, .slice RA row.length RC] 61)).alloc (.cells #[.int .i64 o, .int .i64 9, .int .i64 key, .int .i64 val] 27)).alloc (.cells NL 61)).alloc (.cells (F4k (.slice none 0 0)) 34)).alloc (.cells (F4k (.slice none 0 0)) 34)) (VA, vals.length, VC) (RA, row.length, RC) vals row (.slice none 0 0) []) := hid (Dn.start #[.int .i64 o, .int .i64 9, .int .i64 key, .int .i64 val] hV hR)
  have HS0 : Hid (Blk (((((w.alloc (.cells #[.slice VA vals.length VC, .slice RA row.length RC] 61)).alloc (.cells #[.int .i64 o, .int .i64 9, .int .i64 key, .int .i64 val] 27)).alloc (.cells NL 61)).alloc (.cells (F4k (.slice none 0 0)) 34)).alloc (.cells (F4k (.slice none 0 0)) 34)) (w.heap.size + 1) #[.int .i64 o, .int .i64 9, .int .i64 key, .int .i64 val] 27) := by
    have h_ := Blk.new (w.alloc (.cells #[.slice VA vals.length VC, .slice RA row.length RC] 61)) #[.int .i64 o, .int .i64 9, .int .i64 key, .int .i64 val] 27
    rw [Hk.alloc_size] at h_
    exact hid (((h_.alloc _).alloc _).alloc _)
  have HL := hid hl
  have HAT := hid hat
  clear hV hR hl hat
  go_enter Try.func39, Try.ntmps39
  go_upto_region 2 with fail
  change Code.wp _ _ _ _ (((((w.alloc (.cells #[.slice VA vals.length VC, .slice RA row.length RC] 61)).alloc (.cells #[.int .i64 o, .int .i64 9, .int .i64 key, .int .i64 val] 27)).alloc (.cells NL 61)).alloc (.cells (F4k (.slice none 0 0)) 34)).alloc (.cells (F4k (.slice none 0 0)) 34))
  generalize (((((w.alloc (.cells #[.slice VA vals.length VC, .slice RA row.length RC] 61)).alloc (.cells #[.int .i64 o, .int .i64 9, .int .i64 key, .int .i64 val] 27)).alloc (.cells NL 61)).alloc (.cells (F4k (.slice none 0 0)) 34)).alloc (.cells (F4k (.slice none 0 0)) 34)) = W0 at H0 HS0 ⊢
  obtain ⟨s, hs⟩ : ∃ s, w.heap.size = s := ⟨_, rfl⟩
  rw [hs] at H0 HS0 ⊢
  have c1 : W0.cell? ⟨s, 1, none⟩ = some (.slice RA row.length RC) := H0.out.x2.cell 1
  have k3 : W0.cell? ⟨s + 1, 3, none⟩ = some (.int .i64 val) := HS0.out.cell 3
  go_upto_region 3 with ((go_at_call 67; refine (spec_lineAt.calls k0 RA RC row val at0 W0 H0.out.lr.cells H0.out.lr.cap HAT.out).mono ?_; rintro e w' ⟨rfl, ⟨n, rfl⟩⟩))
  have H1 := hid (H0.out.drewN n)
  have HS1 : Hid (Blk (W0.drewN n) (s + 1) #[.int .i64 o, .int .i64 9, .int .i64 key, .int .i64 val] 27) := hid (HS0.out.drewN n)
  clear H0 HS0 c1 k3
  generalize W0.drewN n = W at H1 HS1 ⊢
  have k1 : W.cell? ⟨s + 1, 1, none⟩ = some (.int .i64 9) := HS1.out.cell 1
  go_upto_region 25 with fail
  clear k1
  have H3 := hid (H1.out.drewN 1)
  have HS3 : Hid (Blk W.drew (s + 1) #[.int .i64 o, .int .i64 9, .int .i64 key, .int .i64 val] 27) := hid HS1.out
  change Hid (Dn s w W.drew _ _ _ _ _ _) at H3
  have x0 : W.cell? ⟨s, 0, none⟩ = some (.slice VA vals.length VC) := H1.out.x2.cell 0
  have x2 : W.cell? ⟨s + 1, 2, none⟩ = some (.int .i64 key) := HS1.out.cell 2
  clear H1 HS1
  refine start_ (n := 10) (S := fun w' => w'.cell? ⟨s, 0, none⟩ = some (.slice VA vals.length VC) ∧ w'.cell? ⟨s + 1, 2, none⟩ = some (.int .i64 key)) (ds := [9]) #[false, false, false, false, false, false, false, false, false, false] (by kernel_rfl) rfl rfl ⟨x0, x2⟩ (fun hHeld => ?_)
  refine with_tabW ld25.tab ld25.bits (fun HT_ HW_ => ?_)
  clear x0 x2
  generalize W.drew = Wd at H3 HS3 hHeld ⊢
  have HC3 := hid H3.out.lv.cells
  refine pure_ (i := 1) (N := some 114) (v := ?_) (a' := ?_) #[false, true, false, false, false, false, false, false, false, false] rfl rfl (any_of HT_.out (by kernel_rfl)) (fun _ _ _ h => h) (Or.inl ⟨by rfl, ?_⟩) ?_ ?_
  rotate_left
  · intro w'
    go_simp
    with_reducible rfl
  rotate_left
  · simp only [Act.put, List.setIfInBounds_toArray, List.set_cons_zero, List.set_cons_succ]
    rfl
  refine take_ (i := 2) (N := some 115) (v := ?_) (a' := ?_) #[false, true, true, false, false, false, false, false, false, false] rfl rfl (take_ofW HT_.out HW_.out (by kernel_rfl)) (fun _ _ _ h => h) (Or.inl ⟨by rfl, ?_⟩) hHeld ?_ ?_
  rotate_left
  · intro w' s0
    obtain ⟨s1, s2⟩ := s0
    go_simp
    with_reducible rfl
  rotate_left
  · simp only [Act.put, List.setIfInBounds_toArray, List.set_cons_zero, List.set_cons_succ]
    rfl
  refine pure_ (i := 4) (N := some 117) (v := ?_) (a' := ?_) #[false, true, true, false, true, false, false, false, false, false] rfl rfl (any_of HT_.out (by kernel_rfl)) (fun _ _ _ h => h) (Or.inl ⟨by rfl, ?_⟩) ?_ ?_
  rotate_left
  · intro w'
    go_simp
    with_reducible rfl
  rotate_left
  · simp only [Act.put, List.setIfInBounds_toArray, List.set_cons_zero, List.set_cons_succ]
    rfl
  refine take_ (i := 5) (N := some 118) (v := ?_) (a' := ?_) #[false, true, true, false, true, true, false, false, false, false] rfl rfl (take_ofW HT_.out HW_.out (by kernel_rfl)) (fun _ _ _ h => h) (Or.inl ⟨by rfl, ?_⟩) hHeld ?_ ?_
  rotate_left
  · intro w' s0
    obtain ⟨s1, s2⟩ := s0
    go_simp
    with_reducible rfl
  rotate_left
  · simp only [Act.put, List.setIfInBounds_toArray, List.set_cons_zero, List.set_cons_succ]
    rfl
  have HB0 : Hid (Below Wd.heap.size Wd Wd) := hid (Below.refl _ _)
  refine two_ (i := 0) (j := 6) (Ni := some 113) (Nj := some 119) #[true, true, true, false, true, true, false, false, false, false] #[false, true, true, false, true, true, true, false, false, false] rfl rfl rfl rfl (two_of HT_.out (by kernel_rfl)) (by decide) (by decide) (fun K_ hK => ?_) (fun K_ hK => ?_)
  · refine value_ (w1 := ?_) (v := ?_) (by rfl) rfl ?_ ?_
    rotate_left 2
    · go_simp
      constructor
      · rfl
      · rfl
    refine hK.out _ _ ⟨(H3.out.later (HB0.out.alloc HB0.out.size _)).x2.cell 0, (HS3.out.below (HB0.out.alloc HB0.out.size _) HS3.out.lt).cell 2⟩ (fun hHeld => ?_)
    clear hK K_
    have HB1' : Hid (Below Wd.heap.size Wd (Wd.alloc (.cells #[] 3)) ∧ Wd.heap.size < (Wd.alloc (.cells #[] 3)).heap.size) := hid ⟨HB0.out.alloc HB0.out.size _, by simp⟩
    have HE1 : Hid (Ro (Wd.alloc (.cells #[] 3)) Wd.heap.size (.slice (some ⟨Wd.heap.size, 0, none⟩) 0 0) []) := hid (ro_lit HB0.out.size)
    generalize Wd.alloc (.cells #[] 3) = W1 at HB1' HE1 hHeld ⊢
    refine norm_ (a' := ?_) ?_ ?_
    rotate_left
    · show Act.put _ (some 113) _ = _
      simp only [Act.put, List.setIfInBounds_toArray, List.set_cons_zero, List.set_cons_succ]
      rfl
    have HB1 := hid HB1'.out.1
    refine two_ (i := 3) (j := 6) (Ni := some 116) (Nj := some 119) #[true, true, true, true, true, true, false, false, false, false] #[true, true, true, false, true, true, true, false, false, false] rfl rfl rfl rfl (two_of HT_.out (by kernel_rfl)) (by decide) (by decide) (fun K_ hK => ?_) (fun K_ hK => ?_)
    · refine Kd.R_append_rows_step (Kd.int .i64) (w0 := Wd) Wd.heap.size rfl (.tmp 113) (.tmp 115) 30 3 (.int .i64 0) 8 rfl Try.underlying30 Heap.info3 rfl (by decide) (by omega) (.slice (some ⟨Wd.heap.size, 0, none⟩) 0 0) [] vals VA vals.length VC (fun _ => True) (fun _ => False) rfl rfl HE1.out (Kd.C_below HC3.out HB1.out) (fun _ _ h => h) (fun _ h => h.elim) (fun _ _ => trivial) HB1.out HB1.out.size (by have h_ := HL.out; rw [List.length_nil]; omega) ?_
      intro v37 W2 ho hb hg hat
      obtain ⟨A7, c7, rfl⟩ := Kd.R_slice ho
      have HB2 := hid hb
      have HE2 : Hid (Ro W2 Wd.heap.size (.slice A7 ([] ++ vals).length c7) ([] ++ vals)) := hid ho
      clear ho hb hg hat
      refine hK.out _ _ ⟨(H3.out.later HB2.out).x2.cell 0, (HS3.out.below HB2.out HS3.out.lt).cell 2⟩ (fun hHeld => ?_)
      clear hK K_
      refine norm_ (a' := ?_) ?_ ?_
      rotate_left
      · show Act.put _ (some 116) _ = _
        simp only [Act.put, List.setIfInBounds_toArray, List.set_cons_zero, List.set_cons_succ]
        rfl
      refine one_ (i := 6) (N := some 119) #[true, true, true, true, true, true, true, false, false, false] rfl rfl (one_of HT_.out (by kernel_rfl)) (by decide) (fun K_ hK => ?_)
      refine value_ (w1 := ?_) (v := ?_) (by rfl) rfl ?_ ?_
      rotate_left 2
      · go_simp
        constructor
        · rfl
        · rfl
      refine hK.out _ _ ⟨(H3.out.later (HB2.out.alloc HB2.out.size _)).x2.cell 0, (HS3.out.below (HB2.out.alloc HB2.out.size _) HS3.out.lt).cell 2⟩ (fun hHeld => ?_)
      clear hK K_
      have HB3' : Hid (Below Wd.heap.size Wd (W2.alloc (.cells #[.int .i64 key] 3)) ∧ W2.heap.size < (W2.alloc (.cells #[.int .i64 key] 3)).heap.size) := hid ⟨HB2.out.alloc HB2.out.size _, by simp⟩
      have HK3 : Hid (Blk (W2.alloc (.cells #[.int .i64 key] 3)) W2.heap.size #[.int .i64 key] 3) := hid (Blk.new _ _ _)
      have HE3 : Hid (Ro (W2.alloc (.cells #[.int .i64 key] 3)) Wd.heap.size (.slice A7 ([] ++ vals).length c7) ([] ++ vals)) := hid (Kd.R_alloc HE2.out _)
      generalize W2.alloc (.cells #[.int .i64 key] 3) = W3 at HB3' HK3 HE3 hHeld ⊢
      refine norm_ (a' := ?_) ?_ ?_
      rotate_left
      · show Act.put _ (some 119) _ = _
        simp only [Act.put, List.setIfInBounds_toArray, List.set_cons_zero, List.set_cons_succ]
        rfl
      have HB3 := hid HB3'.out.1
      refine one_ (i := 7) (N := some 120) #[true, true, true, true, true, true, true, true, false, false] rfl rfl (one_of HT_.out (by kernel_rfl)) (by decide) (fun K_ hK => ?_)
      refine Row.append_int rfl (.tmp 116) (.tmp 119) 30 3 rfl Try.underlying30 Heap.info3 Wd.heap.size (.slice A7 ([] ++ vals).length c7) ([] ++ vals) key (fun _ => True) W3 rfl HE3.out ⟨W2.heap.size, 0, none⟩ 1 rfl (HK3.out.cell 0) (by have h_ := HL.out; rw [List.nil_append]; omega) HB3.out.size ?_
      intro v9 W8 ho hg hat
      obtain ⟨A9, c9, rfl⟩ := Kd.R_slice ho
      have HB9 : Hid (Below Wd.heap.size Wd W8) := hid (HB3.out.trans ((Fr.of_grown hg).below HB3.out.size (fun k hk => Kd.R_base HE3.out k hk.symm)))
      have HV9 : Hid (Lies W8 (A9, vals.length + 1, c9) (vals ++ [key])) := by
        have h_ := Lies.of ho
        have hl_ : ([] ++ vals ++ [key]).length = vals.length + 1 := by simp
        rw [hl_] at h_
        exact hid h_
      clear ho hg hat
      refine hK.out _ _ ⟨(H3.out.later HB9.out).x2.cell 0, (HS3.out.below HB9.out HS3.out.lt).cell 2⟩ (fun hHeld => ?_)
      clear hK K_
      refine norm_ (a' := ?_) ?_ ?_
      rotate_left
      · show Act.put _ (some 120) _ = _
        simp only [Act.put, List.setIfInBounds_toArray, List.set_cons_zero, List.set_cons_succ]
        rfl
      refine pure_ (i := 8) (N := some 121) (v := ?_) (a' := ?_) #[true, true, true, true, true, true, true, true, true, false] rfl rfl (any_of HT_.out (by kernel_rfl)) (fun _ _ _ h => h) (Or.inl ⟨by rfl, ?_⟩) ?_ ?_
      rotate_left
      · intro w'
        go_simp
        with_reducible rfl
      rotate_left
      · simp only [Act.put, List.setIfInBounds_toArray, List.set_cons_zero, List.set_cons_succ]
        rfl
      have H8 := hid (H3.out.later HB9.out)
      have HBF := hid HB9.out.size
      clear H3 HS3 HC3 HB9
      have d4 : W8.cell? ⟨s, 0, none⟩ = some (.slice VA vals.length VC) := H8.out.x2.cell 0
      have f4 : W8.frozen? ⟨s, 0, none⟩ = false := H8.out.x2.free 0
      refine last_ (i := 9) (N := none) #[true, true, true, true, true, true, true, true, true, true] rfl rfl (one_of HT_.out (by kernel_rfl)) (by decide) (fun K_ hK => ?_)
      refine skip_ (w1 := ?_) (by rfl) rfl ?_ ?_
      rotate_left
      · go_simp
        rfl
      refine hK.out _ _ ?_
      clear hK K_
      refine done_ (done_of HT_.out (by kernel_rfl)) ?_
      clear HT_ HW_
      clear d4 f4 hHeld
      have H9 := hid (H8.out.setV HV9.out)
      clear H8 HV9
      go_upto_region 26 with fail
      change Code.wp _ _ _ _ (W8.setCell ⟨s, 0, none⟩ (slV (A9, vals.length + 1, c9)))
      generalize W8.setCell ⟨s, 0, none⟩ (slV (A9, vals.length + 1, c9)) = W9 at H9 ⊢
      have a0 : W9.cell? ⟨s, 0, none⟩ = some (.slice A9 (vals.length + 1) c9) := H9.out.x2.cell 0
      have a1 : W9.cell? ⟨s, 1, none⟩ = some (.slice RA row.length RC) := H9.out.x2.cell 1
      have b0 : W9.cell? ⟨s + 1 + 1 + 1 + 1, 0, none⟩ = some (.int .i64 0) := H9.out.x6.cell 0
      have b1 : W9.cell? ⟨s + 1 + 1 + 1 + 1, 1, none⟩ = some (.bool false) := H9.out.x6.cell 1
      have b2 : W9.cell? ⟨s + 1 + 1 + 1 + 1, 2, none⟩ = some (.slice none 0 0) := H9.out.x6.cell 2
      have b3 : W9.cell? ⟨s + 1 + 1 + 1 + 1, 3, none⟩ = some (.slice none 0 0) := H9.out.x6.cell 3
      have d0 : W9.cell? ⟨s + 1 + 1, 0, none⟩ = some (.slice none 0 0) := H9.out.x4.cell 0
      have e0 : W9.frozen? ⟨s + 1 + 1, 0, none⟩ = false := H9.out.x4.free 0
      have d1 : W9.cell? ⟨s + 1 + 1, 1, none⟩ = some (.slice none 0 0) := H9.out.x4.cell 1
      have e1 : W9.frozen? ⟨s + 1 + 1, 1, none⟩ = false := H9.out.x4.free 1
      have f0 : W9.cell? ⟨s + 1 + 1 + 1, 0, none⟩ = some (.int .i64 0) := H9.out.x5.cell 0
      have g0 : W9.frozen? ⟨s + 1 + 1 + 1, 0, none⟩ = false := H9.out.x5.free 0
      have f1 : W9.cell? ⟨s + 1 + 1 + 1, 1, none⟩ = some (.bool false) := H9.out.x5.cell 1
      have g1 : W9.frozen? ⟨s + 1 + 1 + 1, 1, none⟩ = false := H9.out.x5.free 1
      have f2 : W9.cell? ⟨s + 1 + 1 + 1, 2, none⟩ = some (.slice none 0 0) := H9.out.x5.cell 2
      have g2 : W9.frozen? ⟨s + 1 + 1 + 1, 2, none⟩ = false := H9.out.x5.free 2
      have f3 : W9.cell? ⟨s + 1 + 1 + 1, 3, none⟩ = some (.slice none 0 0) := H9.out.x5.cell 3
      have g3 : W9.frozen? ⟨s + 1 + 1 + 1, 3, none⟩ = false := H9.out.x5.free 3
      go_upto_region 26 with fail
      go_region
      go_wp2_with fail
      refine bodyPost_ret (v := .tuple #[.agg #[.slice A9 (vals.length + 1) c9, .slice RA row.length RC], .agg #[.int .i64 0, .bool false, .slice none 0 0, .slice none 0 0]]) (by simp [results, Try.results39, go_sem, d0, d1, f0, f1, f2, f3]) rfl ?_
      obtain ⟨r1, r2, r3, r4⟩ := H9.out.fin (W1 := _) (fin_fr _ (.slice A9 (vals.length + 1) c9) (.slice RA row.length RC) (.int .i64 0) (.bool false) (.slice none 0 0) (.slice none 0 0))
      exact ⟨(A9, (vals.length + 1), c9), (RA, row.length, RC), .slice none 0 0, rfl, r1, r2, by rw [hs]; exact r3, by rw [hs]; exact r4⟩
    · refine value_ (w1 := ?_) (v := ?_) (by rfl) rfl ?_ ?_
      rotate_left 2
      · go_simp
        constructor
        · rfl
        · rfl
      refine hK.out _ _ ⟨(H3.out.later (HB1.out.alloc HB1.out.size _)).x2.cell 0, (HS3.out.below (HB1.out.alloc HB1.out.size _) HS3.out.lt).cell 2⟩ (fun hHeld => ?_)
      clear hK K_
      have HB2' : Hid (Below Wd.heap.size Wd (W1.alloc (.cells #[.int .i64 key] 3)) ∧ W1.heap.size < (W1.alloc (.cells #[.int .i64 key] 3)).heap.size) := hid ⟨HB1.out.alloc HB1.out.size _, by simp⟩
      have HK2 : Hid (Blk (W1.alloc (.cells #[.int .i64 key] 3)) W1.heap.size #[.int .i64 key] 3) := hid (Blk.new _ _ _)
      have HE2 : Hid (Ro (W1.alloc (.cells #[.int .i64 key] 3)) Wd.heap.size (.slice (some ⟨Wd.heap.size, 0, none⟩) 0 0) []) := hid (Kd.R_alloc HE1.out _)
      generalize W1.alloc (.cells #[.int .i64 key] 3) = W2 at HB2' HK2 HE2 hHeld ⊢
      refine norm_ (a' := ?_) ?_ ?_
      rotate_left
      · show Act.put _ (some 119) _ = _
        simp only [Act.put, List.setIfInBounds_toArray, List.set_cons_zero, List.set_cons_succ]
        rfl
      have HB2 := hid HB2'.out.1
      refine one_ (i := 3) (N := some 116) #[true, true, true, true, true, true, true, false, false, false] rfl rfl (one_of HT_.out (by kernel_rfl)) (by decide) (fun K_ hK => ?_)
      refine Kd.R_append_rows_step (Kd.int .i64) (w0 := Wd) Wd.heap.size rfl (.tmp 113) (.tmp 115) 30 3 (.int .i64 0) 8 rfl Try.underlying30 Heap.info3 rfl (by decide) (by omega) (.slice (some ⟨Wd.heap.size, 0, none⟩) 0 0) [] vals VA vals.length VC (fun _ => True) (fun _ => False) rfl rfl HE2.out (Kd.C_below HC3.out HB2.out) (fun _ _ h => h) (fun _ h => h.elim) (fun _ _ => trivial) HB2.out HB2.out.size (by have h_ := HL.out; rw [List.length_nil]; omega) ?_
      intro v37 W3 ho hb hg hat
      obtain ⟨A7, c7, rfl⟩ := Kd.R_slice ho
      have HB3 := hid hb
      have HE3 : Hid (Ro W3 Wd.heap.size (.slice A7 ([] ++ vals).length c7) ([] ++ vals)) := hid ho
      have HK3 : Hid (Blk W3 W1.heap.size #[.int .i64 key] 3) := hid (HK2.out.fr (Fr.of_grown hg) (fun e => by have e2 : W1.heap.size = Wd.heap.size := (by simpa [Value.ownBlock] using e); have := HB1'.out.2; omega))
      clear ho hb hg hat
      refine hK.out _ _ ⟨(H3.out.later HB3.out).x2.cell 0, (HS3.out.below HB3.out HS3.out.lt).cell 2⟩ (fun hHeld => ?_)
      clear hK K_
      refine norm_ (a' := ?_) ?_ ?_
      rotate_left
      · show Act.put _ (some 116) _ = _
        simp only [Act.put, List.setIfInBounds_toArray, List.set_cons_zero, List.set_cons_succ]
        rfl
      refine one_ (i := 7) (N := some 120) #[true, true, true, true, true, true, true, true, false, false] rfl rfl (one_of HT_.out (by kernel_rfl)) (by decide) (fun K_ hK => ?_)
      refine Row.append_int rfl (.tmp 116) (.tmp 119) 30 3 rfl Try.underlying30 Heap.info3 Wd.heap.size (.slice A7 ([] ++ vals).length c7) ([] ++ vals) key (fun _ => True) W3 rfl HE3.out ⟨W1.heap.size, 0, none⟩ 1 rfl (HK3.out.cell 0) (by have h_ := HL.out; rw [List.nil_append]; omega) HB3.out.size ?_
      intro v9 W8 ho hg hat
      obtain ⟨A9, c9, rfl⟩ := Kd.R_slice ho
      have HB9 : Hid (Below Wd.heap.size Wd W8) := hid (HB3.out.trans ((Fr.of_grown hg).below HB3.out.size (fun k hk => Kd.R_base HE3.out k hk.symm)))
      have HV9 : Hid (Lies W8 (A9, vals.length + 1, c9) (vals ++ [key])) := by
        have h_ := Lies.of ho
        have hl_ : ([] ++ vals ++ [key]).length = vals.length + 1 := by simp
        rw [hl_] at h_
        exact hid h_
      clear ho hg hat
      refine hK.out _ _ ⟨(H3.out.later HB9.out).x2.cell 0, (HS3.out.below HB9.out HS3.out.lt).cell 2⟩ (fun hHeld => ?_)
      clear hK K_
      refine norm_ (a' := ?_) ?_ ?_
      rotate_left
      · show Act.put _ (some 120) _ = _
        simp only [Act.put, List.setIfInBounds_toArray, List.set_cons_zero, List.set_cons_succ]
        rfl
      refine pure_ (i := 8) (N := some 121) (v := ?_) (a' := ?_) #[true, true, true, true, true, true, true, true, true, false] rfl rfl (any_of HT_.out (by kernel_rfl)) (fun _ _ _ h => h) (Or.inl ⟨by rfl, ?_⟩) ?_ ?_
      rotate_left
      · intro w'
        go_simp
        with_reducible rfl
      rotate_left
      · simp only [Act.put, List.setIfInBounds_toArray, List.set_cons_zero, List.set_cons_succ]
        rfl
      have H8 := hid (H3.out.later HB9.out)
      have HBF := hid HB9.out.size
      clear H3 HS3 HC3 HB9
      have d4 : W8.cell? ⟨s, 0, none⟩ = some (.slice VA vals.length VC) := H8.out.x2.cell 0
      have f4 : W8.frozen? ⟨s, 0, none⟩ = false := H8.out.x2.free 0
      refine last_ (i := 9) (N := none) #[true, true, true, true, true, true, true, true, true, true] rfl rfl (one_of HT_.out (by kernel_rfl)) (by decide) (fun K_ hK => ?_)
      refine skip_ (w1 := ?_) (by rfl) rfl ?_ ?_
      rotate_left
      · go_simp
        rfl
      refine hK.out _ _ ?_
      clear hK K_
      refine done_ (done_of HT_.out (by kernel_rfl)) ?_
      clear HT_ HW_
      clear d4 f4 hHeld
      have H9 := hid (H8.out.setV HV9.out)
      clear H8 HV9
      go_upto_region 26 with fail
      change Code.wp _ _ _ _ (W8.setCell ⟨s, 0, none⟩ (slV (A9, vals.length + 1, c9)))
      generalize W8.setCell ⟨s, 0, none⟩ (slV (A9, vals.length + 1, c9)) = W9 at H9 ⊢
      have a0 : W9.cell? ⟨s, 0, none⟩ = some (.slice A9 (vals.length + 1) c9) := H9.out.x2.cell 0
      have a1 : W9.cell? ⟨s, 1, none⟩ = some (.slice RA row.length RC) := H9.out.x2.cell 1
      have b0 : W9.cell? ⟨s + 1 + 1 + 1 + 1, 0, none⟩ = some (.int .i64 0) := H9.out.x6.cell 0
      have b1 : W9.cell? ⟨s + 1 + 1 + 1 + 1, 1, none⟩ = some (.bool false) := H9.out.x6.cell 1
      have b2 : W9.cell? ⟨s + 1 + 1 + 1 + 1, 2, none⟩ = some (.slice none 0 0) := H9.out.x6.cell 2
      have b3 : W9.cell? ⟨s + 1 + 1 + 1 + 1, 3, none⟩ = some (.slice none 0 0) := H9.out.x6.cell 3
      have d0 : W9.cell? ⟨s + 1 + 1, 0, none⟩ = some (.slice none 0 0) := H9.out.x4.cell 0
      have e0 : W9.frozen? ⟨s + 1 + 1, 0, none⟩ = false := H9.out.x4.free 0
      have d1 : W9.cell? ⟨s + 1 + 1, 1, none⟩ = some (.slice none 0 0) := H9.out.x4.cell 1
      have e1 : W9.frozen? ⟨s + 1 + 1, 1, none⟩ = false := H9.out.x4.free 1
      have f0 : W9.cell? ⟨s + 1 + 1 + 1, 0, none⟩ = some (.int .i64 0) := H9.out.x5.cell 0
      have g0 : W9.frozen? ⟨s + 1 + 1 + 1, 0, none⟩ = false := H9.out.x5.free 0
      have f1 : W9.cell? ⟨s + 1 + 1 + 1, 1, none⟩ = some (.bool false) := H9.out.x5.cell 1
      have g1 : W9.frozen? ⟨s + 1 + 1 + 1, 1, none⟩ = false := H9.out.x5.free 1
      have f2 : W9.cell? ⟨s + 1 + 1 + 1, 2, none⟩ = some (.slice none 0 0) := H9.out.x5.cell 2
      have g2 : W9.frozen? ⟨s + 1 + 1 + 1, 2, none⟩ = false := H9.out.x5.free 2
      have f3 : W9.cell? ⟨s + 1 + 1 + 1, 3, none⟩ = some (.slice none 0 0) := H9.out.x5.cell 3
      have g3 : W9.frozen? ⟨s + 1 + 1 + 1, 3, none⟩ = false := H9.out.x5.free 3
      go_upto_region 26 with fail
      go_region
      go_wp2_with fail
      refine bodyPost_ret (v := .tuple #[.agg #[.slice A9 (vals.length + 1) c9, .slice RA row.length RC], .agg #[.int .i64 0, .bool false, .slice none 0 0, .slice none 0 0]]) (by simp [results, Try.results39, go_sem, d0, d1, f0, f1, f2, f3]) rfl ?_
      obtain ⟨r1, r2, r3, r4⟩ := H9.out.fin (W1 := _) (fin_fr _ (.slice A9 (vals.length + 1) c9) (.slice RA row.length RC) (.int .i64 0) (.bool false) (.slice none 0 0) (.slice none 0 0))
      exact ⟨(A9, (vals.length + 1), c9), (RA, row.length, RC), .slice none 0 0, rfl, r1, r2, by rw [hs]; exact r3, by rw [hs]; exact r4⟩
  · refine value_ (w1 := ?_) (v := ?_) (by rfl) rfl ?_ ?_
    rotate_left 2
    · go_simp
      constructor
      · rfl
      · rfl
    refine hK.out _ _ ⟨(H3.out.later (HB0.out.alloc HB0.out.size _)).x2.cell 0, (HS3.out.below (HB0.out.alloc HB0.out.size _) HS3.out.lt).cell 2⟩ (fun hHeld => ?_)
    clear hK K_
    have HB1' : Hid (Below Wd.heap.size Wd (Wd.alloc (.cells #[.int .i64 key] 3)) ∧ Wd.heap.size < (Wd.alloc (.cells #[.int .i64 key] 3)).heap.size) := hid ⟨HB0.out.alloc HB0.out.size _, by simp⟩
    have HK1 : Hid (Blk (Wd.alloc (.cells #[.int .i64 key] 3)) Wd.heap.size #[.int .i64 key] 3) := hid (Blk.new _ _ _)
    generalize Wd.alloc (.cells #[.int .i64 key] 3) = W1 at HB1' HK1 hHeld ⊢
    refine norm_ (a' := ?_) ?_ ?_
    rotate_left
    · show Act.put _ (some 119) _ = _
      simp only [Act.put, List.setIfInBounds_toArray, List.set_cons_zero, List.set_cons_succ]
      rfl
    have HB1 := hid HB1'.out.1
    refine one_ (i := 0) (N := some 113) #[true, true, true, false, true, true, true, false, false, false] rfl rfl (one_of HT_.out (by kernel_rfl)) (by decide) (fun K_ hK => ?_)
    refine value_ (w1 := ?_) (v := ?_) (by rfl) rfl ?_ ?_
    rotate_left 2
    · go_simp
      constructor
      · rfl
      · rfl
    refine hK.out _ _ ⟨(H3.out.later (HB1.out.alloc HB1.out.size _)).x2.cell 0, (HS3.out.below (HB1.out.alloc HB1.out.size _) HS3.out.lt).cell 2⟩ (fun hHeld => ?_)
    clear hK K_
    have HB2' : Hid (Below Wd.heap.size Wd (W1.alloc (.cells #[] 3)) ∧ W1.heap.size < (W1.alloc (.cells #[] 3)).heap.size) := hid ⟨HB1.out.alloc HB1.out.size _, by simp⟩
    have HE2 : Hid (Ro (W1.alloc (.cells #[] 3)) Wd.heap.size (.slice (some ⟨W1.heap.size, 0, none⟩) 0 0) []) := hid (ro_lit HB1.out.size)
    have HK2 : Hid (Blk (W1.alloc (.cells #[] 3)) Wd.heap.size #[.int .i64 key] 3) := hid (HK1.out.alloc _)
    generalize W1.alloc (.cells #[] 3) = W2 at HB2' HE2 HK2 hHeld ⊢
    refine norm_ (a' := ?_) ?_ ?_
    rotate_left
    · show Act.put _ (some 113) _ = _
      simp only [Act.put, List.setIfInBounds_toArray, List.set_cons_zero, List.set_cons_succ]
      rfl
    have HB2 := hid HB2'.out.1
    refine one_ (i := 3) (N := some 116) #[true, true, true, true, true, true, true, false, false, false] rfl rfl (one_of HT_.out (by kernel_rfl)) (by decide) (fun K_ hK => ?_)
    refine Kd.R_append_rows_step (Kd.int .i64) (w0 := Wd) Wd.heap.size rfl (.tmp 113) (.tmp 115) 30 3 (.int .i64 0) 8 rfl Try.underlying30 Heap.info3 rfl (by decide) (by omega) (.slice (some ⟨W1.heap.size, 0, none⟩) 0 0) [] vals VA vals.length VC (fun _ => True) (fun _ => False) rfl rfl HE2.out (Kd.C_below HC3.out HB2.out) (fun _ _ h => h) (fun _ h => h.elim) (fun _ _ => trivial) HB2.out HB2.out.size (by have h_ := HL.out; rw [List.length_nil]; omega) ?_
    intro v37 W3 ho hb hg hat
    obtain ⟨A7, c7, rfl⟩ := Kd.R_slice ho
    have HB3 := hid hb
    have HE3 : Hid (Ro W3 Wd.heap.size (.slice A7 ([] ++ vals).length c7) ([] ++ vals)) := hid ho
    have HK3 : Hid (Blk W3 Wd.heap.size #[.int .i64 key] 3) := hid (HK2.out.fr (Fr.of_grown hg) (fun e => by have e2 : Wd.heap.size = W1.heap.size := (by simpa [Value.ownBlock] using e); have := HB1'.out.2; omega))
    clear ho hb hg hat
    refine hK.out _ _ ⟨(H3.out.later HB3.out).x2.cell 0, (HS3.out.below HB3.out HS3.out.lt).cell 2⟩ (fun hHeld => ?_)
    clear hK K_
    refine norm_ (a' := ?_) ?_ ?_
    rotate_left
    · show Act.put _ (some 116) _ = _
      simp only [Act.put, List.setIfInBounds_toArray, List.set_cons_zero, List.set_cons_succ]
      rfl
    refine one_ (i := 7) (N := some 120) #[true, true, true, true, true, true, true, true, false, false] rfl rfl (one_of HT_.out (by kernel_rfl)) (by decide) (fun K_ hK => ?_)
    refine Row.append_int rfl (.tmp 116) (.tmp 119) 30 3 rfl Try.underlying30 Heap.info3 Wd.heap.size (.slice A7 ([] ++ vals).length c7) ([] ++ vals) key (fun _ => True) W3 rfl HE3.out ⟨Wd.heap.size, 0, none⟩ 1 rfl (HK3.out.cell 0) (by have h_ := HL.out; rw [List.nil_append]; omega) HB3.out.size ?_
    intro v9 W8 ho hg hat
    obtain ⟨A9, c9, rfl⟩ := Kd.R_slice ho
    have HB9 : Hid (Below Wd.heap.size Wd W8) := hid (HB3.out.trans ((Fr.of_grown hg).below HB3.out.size (fun k hk => Kd.R_base HE3.out k hk.symm)))
    have HV9 : Hid (Lies W8 (A9, vals.length + 1, c9) (vals ++ [key])) := by
      have h_ := Lies.of ho
      have hl_ : ([] ++ vals ++ [key]).length = vals.length + 1 := by simp
      rw [hl_] at h_
      exact hid h_
    clear ho hg hat
    refine hK.out _ _ ⟨(H3.out.later HB9.out).x2.cell 0, (HS3.out.below HB9.out HS3.out.lt).cell 2⟩ (fun hHeld => ?_)
    clear hK K_
    refine norm_ (a' := ?_) ?_ ?_
    rotate_left
    · show Act.put _ (some 120) _ = _
      simp only [Act.put, List.setIfInBounds_toArray, List.set_cons_zero, List.set_cons_succ]
      rfl
    refine pure_ (i := 8) (N := some 121) (v := ?_) (a' := ?_) #[true, true, true, true, true, true, true, true, true, false] rfl rfl (any_of HT_.out (by kernel_rfl)) (fun _ _ _ h => h) (Or.inl ⟨by rfl, ?_⟩) ?_ ?_
    rotate_left
    · intro w'
      go_simp
      with_reducible rfl
    rotate_left
    · simp only [Act.put, List.setIfInBounds_toArray, List.set_cons_zero, List.set_cons_succ]
      rfl
    have H8 := hid (H3.out.later HB9.out)
    have HBF := hid HB9.out.size
    clear H3 HS3 HC3 HB9
    have d4 : W8.cell? ⟨s, 0, none⟩ = some (.slice VA vals.length VC) := H8.out.x2.cell 0
    have f4 : W8.frozen? ⟨s, 0, none⟩ = false := H8.out.x2.free 0
    refine last_ (i := 9) (N := none) #[true, true, true, true, true, true, true, true, true, true] rfl rfl (one_of HT_.out (by kernel_rfl)) (by decide) (fun K_ hK => ?_)
    refine skip_ (w1 := ?_) (by rfl) rfl ?_ ?_
    rotate_left
    · go_simp
      rfl
    refine hK.out _ _ ?_
    clear hK K_
    refine done_ (done_of HT_.out (by kernel_rfl)) ?_
    clear HT_ HW_
    clear d4 f4 hHeld
    have H9 := hid (H8.out.setV HV9.out)
    clear H8 HV9
    go_upto_region 26 with fail
    change Code.wp _ _ _ _ (W8.setCell ⟨s, 0, none⟩ (slV (A9, vals.length + 1, c9)))
    generalize W8.setCell ⟨s, 0, none⟩ (slV (A9, vals.length + 1, c9)) = W9 at H9 ⊢
    have a0 : W9.cell? ⟨s, 0, none⟩ = some (.slice A9 (vals.length + 1) c9) := H9.out.x2.cell 0
    have a1 : W9.cell? ⟨s, 1, none⟩ = some (.slice RA row.length RC) := H9.out.x2.cell 1
    have b0 : W9.cell? ⟨s + 1 + 1 + 1 + 1, 0, none⟩ = some (.int .i64 0) := H9.out.x6.cell 0
    have b1 : W9.cell? ⟨s + 1 + 1 + 1 + 1, 1, none⟩ = some (.bool false) := H9.out.x6.cell 1
    have b2 : W9.cell? ⟨s + 1 + 1 + 1 + 1, 2, none⟩ = some (.slice none 0 0) := H9.out.x6.cell 2
    have b3 : W9.cell? ⟨s + 1 + 1 + 1 + 1, 3, none⟩ = some (.slice none 0 0) := H9.out.x6.cell 3
    have d0 : W9.cell? ⟨s + 1 + 1, 0, none⟩ = some (.slice none 0 0) := H9.out.x4.cell 0
    have e0 : W9.frozen? ⟨s + 1 + 1, 0, none⟩ = false := H9.out.x4.free 0
    have d1 : W9.cell? ⟨s + 1 + 1, 1, none⟩ = some (.slice none 0 0) := H9.out.x4.cell 1
    have e1 : W9.frozen? ⟨s + 1 + 1, 1, none⟩ = false := H9.out.x4.free 1
    have f0 : W9.cell? ⟨s + 1 + 1 + 1, 0, none⟩ = some (.int .i64 0) := H9.out.x5.cell 0
    have g0 : W9.frozen? ⟨s + 1 + 1 + 1, 0, none⟩ = false := H9.out.x5.free 0
    have f1 : W9.cell? ⟨s + 1 + 1 + 1, 1, none⟩ = some (.bool false) := H9.out.x5.cell 1
    have g1 : W9.frozen? ⟨s + 1 + 1 + 1, 1, none⟩ = false := H9.out.x5.free 1
    have f2 : W9.cell? ⟨s + 1 + 1 + 1, 2, none⟩ = some (.slice none 0 0) := H9.out.x5.cell 2
    have g2 : W9.frozen? ⟨s + 1 + 1 + 1, 2, none⟩ = false := H9.out.x5.free 2
    have f3 : W9.cell? ⟨s + 1 + 1 + 1, 3, none⟩ = some (.slice none 0 0) := H9.out.x5.cell 3
    have g3 : W9.frozen? ⟨s + 1 + 1 + 1, 3, none⟩ = false := H9.out.x5.free 3
    go_upto_region 26 with fail
    go_region
    go_wp2_with fail
    refine bodyPost_ret (v := .tuple #[.agg #[.slice A9 (vals.length + 1) c9, .slice RA row.length RC], .agg #[.int .i64 0, .bool false, .slice none 0 0, .slice none 0 0]]) (by simp [results, Try.results39, go_sem, d0, d1, f0, f1, f2, f3]) rfl ?_
    obtain ⟨r1, r2, r3, r4⟩ := H9.out.fin (W1 := _) (fin_fr _ (.slice A9 (vals.length + 1) c9) (.slice RA row.length RC) (.int .i64 0) (.bool false) (.slice none 0 0) (.slice none 0 0))
    exact ⟨(A9, (vals.length + 1), c9), (RA, row.length, RC), .slice none 0 0, rfl, r1, r2, by rw [hs]; exact r3, by rw [hs]; exact r4⟩
end Go.Proofs.Ytmhnhfmkcipcpaa.LineDo

namespace Go.Proofs.Ytmhnhfmkcipcpaa.LineDo
open Go Go.RowKit Go.Proofs.Ytmhnhfmkcipcpaa.Hk Go.Proofs.Ytmhnhfmkcipcpaa.Heap Go.Proofs.Ytmhnhfmkcipcpaa.Stack Go.Proofs.Ytmhnhfmkcipcpaa.Seen Go.Proofs.Ytmhnhfmkcipcpaa.Lists Go.Proofs.Ytmhnhfmkcipcpaa.LnFn Go.Proofs.Ytmhnhfmkcipcpaa.LinePure Go.Proofs.Ytmhnhfmkcipcpaa.LineEv Go.Proofs.YtmhnhfmkcipcpaaW.PrintWords Go.Proofs.YtmhnhfmkcipcpaaW.PrintLast Go.Proofs.YtmhnhfmkcipcpaaW.PrintMore
def Sub (b : Line) : Prop := ∀ k ∈ b.2, k < b.1.length
theorem ints_app (l m : List Nat) : ints (l ++ m) = ints l ++ ints m := List.map_append
theorem ints_len (l : List Nat) : (ints l).length = l.length := List.length_map ..
theorem step_sub {b : Line} {a : St} (h : Sub b) (hm : May b a) : Sub (stepL b a) := by
  obtain ⟨m1, m2⟩ := hm
  unfold Sub stepL
  split
  · intro k hk
    rcases List.mem_append.1 hk with e | e
    · have := h k e; show k < (b.1 ++ [a.2.2.1]).length; simp; omega
    · rw [List.mem_singleton.1 e]; show b.1.length < (b.1 ++ [a.2.2.1]).length; simp
  · split
    · intro k hk
      rcases List.mem_cons.1 hk with e | e
      · rw [e]; show b.1.length < (b.1 ++ [a.2.2.1]).length; simp
      · have := h k e; show k < (b.1 ++ [a.2.2.1]).length; simp; omega
    · split
      · exact fun k hk => h k (List.mem_of_mem_erase hk)
      · split
        · rename_i c
          intro k hk
          rcases List.mem_append.1 hk with e | e
          · exact h k e
          · rw [List.mem_singleton.1 e]; exact (m2 (.inl c)).2.1
        · split
          · rename_i c
            intro k hk
            rcases List.mem_cons.1 hk with e | e
            · rw [e]; exact (m2 (.inr c)).2.1
            · exact h k e
          · split
            · intro k hk
              have := h k hk; show k < (b.1 ++ [a.2.2.1]).length; simp; omega
            · exact h
theorem step_len (b : Line) (a : St) : (stepL b a).1.length ≤ b.1.length + 1 ∧ (stepL b a).2.length ≤ b.2.length + 1 := by
  have he := List.length_erase_le (a := a.2.2.2.toNat) (l := b.2)
  unfold stepL
  split
  · simp
  · split
    · simp
    · split
      · exact ⟨Nat.le_succ _, by show (b.2.erase _).length ≤ _; omega⟩
      · split
        · exact ⟨Nat.le_succ _, by simp⟩
        · split
          · exact ⟨Nat.le_succ _, by simp⟩
          · split
            · simp
            · exact ⟨Nat.le_succ _, Nat.le_succ _⟩
theorem lDo_any (w : World) (vp rp : Sl) (b : Line) (o d key val : Int) (hV : Lies w vp b.1) (hR : Lies w rp (ints b.2)) (hm : May b (o, d, key, val)) (hs : Sub b) (hl : b.1.length ≤ 1099511627776 ∧ b.2.length ≤ 1099511627776) :
    Calls Try.prog 39 #[.agg #[slV vp, slV rp], .agg #[.int .i64 o, .int .i64 d, .int .i64 key, .int .i64 val]] w fun e w' => ∃ vp' rp' kv, e = .returned (.tuple #[.agg #[slV vp', slV rp'], .agg #[.int .i64 0, .bool false, kv, .slice none 0 0]]) ∧
      Lies w' vp' (stepL b (o, d, key, val)).1 ∧ Lies w' rp' (ints (stepL b (o, d, key, val)).2) ∧ Ro w' w.heap.size kv (tellL b (o, d, key, val)) ∧ Below w.heap.size w w' := by
  obtain ⟨VA, vn, VC⟩ := vp
  obtain ⟨RA, rn, RC⟩ := rp
  have e1 : vn = b.1.length := hV.len
  have e2 : rn = (ints b.2).length := hR.len
  subst e1; subst e2
  obtain ⟨k0, h0⟩ := (lineAt_ev val (ints b.2) (by rw [ints_len]; exact hl.2)).rounds
  have hl' : b.1.length ≤ 1099511627776 ∧ (ints b.2).length ≤ 1099511627776 := by rw [ints_len]; exact hl
  by_cases c0 : d = 0
  · subst c0
    refine (do0 w VA RA VC RC b.1 (ints b.2) o key val _ k0 hV hR hl' h0).mono ?_
    rintro e w' ⟨vp', rp', kv, he, r1, r2, r3, r4⟩
    exact ⟨vp', rp', kv, he, r1, by show Lies w' rp' (ints (b.2 ++ [b.1.length])); rw [ints_app]; exact r2, r3, r4⟩
  by_cases c1 : d = 1
  · subst c1
    refine (do1 w VA RA VC RC b.1 (ints b.2) o key val _ k0 hV hR hl' h0).mono ?_
    rintro e w' ⟨vp', rp', kv, he, r1, r2, r3, r4⟩
    exact ⟨vp', rp', kv, he, r1, r2, r3, r4⟩
  by_cases c2 : d = 2
  · subst c2
    obtain ⟨v0, vm⟩ := hm.1 (.inl rfl)
    simp only at v0 vm
    obtain ⟨A, B, n1, eab, eer⟩ := List.exists_erase_eq vm
    have ev : val = ((val.toNat : Nat) : Int) := by omega
    have eat : seek val (ints b.2) 0 = ((ints A).length : Int) := by
      rw [ev, seek_in _ _ (mem_ints.2 vm), idx_ints, eab, ints_len]
      have : (A ++ val.toNat :: B).idxOf val.toNat = A.length := by
        rw [List.idxOf_append, if_neg n1]
        simp
      rw [this]; simp
    rw [eat] at h0
    have hcut : spec_cut.f (ints b.2) ((ints A).length : Int) = some (ints (A ++ B)) := by
      have : ints b.2 = ints A ++ ((val.toNat : Nat) : Int) :: ints B := by rw [eab, ints_app]; rfl
      rw [this, ints_app]
      exact cut_some (ints A) (ints B) _ (by rw [← this]; exact hl'.2)
    refine (do2 w VA RA VC RC b.1 (ints b.2) o key val _ k0 hV hR hl' h0 _ hcut).mono ?_
    rintro e w' ⟨vp', rp', kv, he, r1, r2, r3, r4⟩
    exact ⟨vp', rp', kv, he, r1, by show Lies w' rp' (ints (b.2.erase val.toNat)); rw [eer]; exact r2, r3, r4⟩
  by_cases c3 : d = 3
  · subst c3
    obtain ⟨v0, _, _⟩ := hm.2 (.inl rfl)
    simp only at v0
    refine (do3 w VA RA VC RC b.1 (ints b.2) o key val _ k0 hV hR hl' h0).mono ?_
    rintro e w' ⟨vp', rp', kv, he, r1, r2, r3, r4⟩
    refine ⟨vp', rp', kv, he, r1, ?_, r3, r4⟩
    show Lies w' rp' (ints (b.2 ++ [val.toNat]))
    rw [ints_app]
    show Lies w' rp' (ints b.2 ++ [((val.toNat : Nat) : Int)])
    rw [show ((val.toNat : Nat) : Int) = val by omega]; exact r2
  by_cases c4 : d = 4
  · subst c4
    obtain ⟨v0, _, _⟩ := hm.2 (.inr rfl)
    simp only at v0
    refine (do4 w VA RA VC RC b.1 (ints b.2) o key val _ k0 hV hR hl' h0).mono ?_
    rintro e w' ⟨vp', rp', kv, he, r1, r2, r3, r4⟩
    refine ⟨vp', rp', kv, he, r1, ?_, r3, r4⟩
    show Lies w' rp' (((val.toNat : Nat) : Int) :: ints b.2)
    rw [show ((val.toNat : Nat) : Int) = val by omega]; exact r2
  by_cases c5 : d = 5
  · subst c5
    obtain ⟨k1, h1⟩ := (row_ev b.1 hl.1 b.2 hl.2 hs).rounds
    refine (do5 w VA RA VC RC b.1 (ints b.2) o key val _ k0 hV hR hl' h0 k1 _ h1).mono ?_
    rintro e w' ⟨vp', rp', kv, he, r1, r2, r3, r4⟩
    exact ⟨vp', rp', kv, he, r1, r2, r3, r4⟩
  by_cases c6 : d = 6
  · subst c6
    obtain ⟨k1, h1⟩ := (row_ev b.1 hl.1 b.2 hl.2 hs).rounds
    obtain ⟨k2, h2⟩ := (turn_ev (b.2.map (fun k => b.1.getD k 0)) (by rw [List.length_map]; exact hl.2)).rounds
    refine (do6 w VA RA VC RC b.1 (ints b.2) o key val _ k0 hV hR hl' h0 k1 k2 _ _ h1 h2).mono ?_
    rintro e w' ⟨vp', rp', kv, he, r1, r2, r3, r4⟩
    exact ⟨vp', rp', kv, he, r1, r2, r3, r4⟩
  by_cases c7 : d = 7
  · subst c7
    obtain ⟨v0, vm⟩ := hm.1 (.inr (.inl rfl))
    simp only at v0 vm
    have eat : seek val (ints b.2) 0 = ((b.2.idxOf val.toNat : Nat) : Int) := by
      obtain ⟨m, rfl⟩ : ∃ m : Nat, val = (m : Int) := ⟨val.toNat, by omega⟩
      rw [Int.toNat_natCast] at vm ⊢
      rw [seek_in _ _ (mem_ints.2 vm), idx_ints, Nat.zero_add]
    have hlt : b.2.idxOf val.toNat < b.2.length := List.idxOf_lt_length_of_mem vm
    rw [eat] at h0
    obtain ⟨k1, h1⟩ := (row_ev b.1 hl.1 (b.2.drop (b.2.idxOf val.toNat)) (by rw [List.length_drop]; omega) (fun k hk => hs k (List.mem_of_mem_drop hk))).rounds
    have ed : (ints b.2).drop ((b.2.idxOf val.toNat : Nat) : Int).toNat = ints (b.2.drop (b.2.idxOf val.toNat)) := by rw [Int.toNat_natCast]; exact List.map_drop.symm
    refine (do7 w VA RA VC RC b.1 (ints b.2) o key val _ k0 hV hR hl' h0 (by rw [ints_len]; omega) k1 _ (by rw [ed]; exact h1)).mono ?_
    rintro e w' ⟨vp', rp', kv, he, r1, r2, r3, r4⟩
    exact ⟨vp', rp', kv, he, r1, r2, r3, r4⟩
  by_cases c8 : d = 8
  · subst c8
    obtain ⟨v0, vm⟩ := hm.1 (.inr (.inr rfl))
    simp only at v0 vm
    have eat : seek val (ints b.2) 0 = ((b.2.idxOf val.toNat : Nat) : Int) := by
      obtain ⟨m, rfl⟩ : ∃ m : Nat, val = (m : Int) := ⟨val.toNat, by omega⟩
      rw [Int.toNat_natCast] at vm ⊢
      rw [seek_in _ _ (mem_ints.2 vm), idx_ints, Nat.zero_add]
    have hlt : b.2.idxOf val.toNat < b.2.length := List.idxOf_lt_length_of_mem vm
    rw [eat] at h0
    obtain ⟨k1, h1⟩ := (row_ev b.1 hl.1 (b.2.take (b.2.idxOf val.toNat + 1)) (by rw [List.length_take]; omega) (fun k hk => hs k (List.mem_of_mem_take hk))).rounds
    obtain ⟨k2, h2⟩ := (turn_ev ((b.2.take (b.2.idxOf val.toNat + 1)).map (fun k => b.1.getD k 0)) (by rw [List.length_map, List.length_take]; omega)).rounds
    have ed : (ints b.2).take (((b.2.idxOf val.toNat : Nat) : Int) + 1).toNat = ints (b.2.take (b.2.idxOf val.toNat + 1)) := by
      rw [show (((b.2.idxOf val.toNat : Nat) : Int) + 1).toNat = b.2.idxOf val.toNat + 1 by omega]; exact List.map_take.symm
    refine (do8 w VA RA VC RC b.1 (ints b.2) o key val _ k0 hV hR hl' h0 (by rw [ints_len]; omega) k1 k2 _ _ (by rw [ed]; exact h1) h2).mono ?_
    rintro e w' ⟨vp', rp', kv, he, r1, r2, r3, r4⟩
    exact ⟨vp', rp', kv, he, r1, r2, r3, r4⟩
  by_cases c9 : d = 9
  · subst c9
    refine (do9 w VA RA VC RC b.1 (ints b.2) o key val _ k0 hV hR hl' h0).mono ?_
    rintro e w' ⟨vp', rp', kv, he, r1, r2, r3, r4⟩
    exact ⟨vp', rp', kv, he, r1, r2, r3, r4⟩
  refine (doElse w VA RA VC RC b.1 (ints b.2) o d key val _ k0 hV hR hl' h0 c0 c1 c2 c3 c4 c5 c6 c7 c8 c9).mono ?_
  rintro e w' ⟨vp', rp', kv, he, r1, r2, r3, r4⟩
  have s1 : stepL b (o, d, key, val) = b := by
    unfold stepL
    simp only
    rw [if_neg c0, if_neg c1, if_neg c2, if_neg c3, if_neg c4, if_neg c9]
  have s2 : tellL b (o, d, key, val) = [] := by
    unfold tellL
    simp only
    rw [if_neg c5, if_neg c6, if_neg c7, if_neg c8]
  rw [s1, s2]
  exact ⟨vp', rp', kv, he, r1, r2, r3, r4⟩
/-- A step made to one that may be done. -/
def turn1 (b : Line) (a : St) : St := if 0 < b.1.length ∧ (a.2.1 = 2 ∨ a.2.1 = 3 ∨ a.2.1 = 4 ∨ a.2.1 = 7 ∨ a.2.1 = 8) then (a.1, a.2.1, a.2.2.1, a.2.2.2 % (b.1.length : Int)) else a
def fit1 (b : Line) (a : St) : St := if mayB b.1 (ints b.2) (turn1 b a).2.1 (turn1 b a).2.2.2 = true then turn1 b a else (0, 5, 0, 0)
def fitL : Line → List St → List St
  | _, [] => []
  | b, a :: l => fit1 b a :: fitL (stepL b (fit1 b a)) l
theorem fit1_may (b : Line) (a : St) : May b (fit1 b a) := by
  unfold fit1
  split
  · rename_i h
    exact (may_iff b (turn1 b a).1 (turn1 b a).2.1 (turn1 b a).2.2.1 (turn1 b a).2.2.2).1 h
  · exact ⟨fun e => by simp at e, fun e => by simp at e⟩
theorem fit_may : ∀ (l : List St) (b : Line), MayAll b (fitL b l)
  | [], _ => trivial
  | a :: l, b => ⟨fit1_may b a, fit_may l _⟩
theorem fit_len : ∀ (l : List St) (b : Line), (fitL b l).length = l.length
  | [], _ => rfl
  | _ :: l, b => by simp [fitL, fit_len l]
theorem may_app : ∀ (l m : List St) (b : Line), MayAll b l → (∀ c, MayAll c m) → MayAll b (l ++ m)
  | [], _, b, _, h => h b
  | _ :: l, m, _, ⟨h1, h2⟩, h => ⟨h1, may_app l m _ h2 h⟩
end Go.Proofs.Ytmhnhfmkcipcpaa.LineDo

namespace Go.Proofs.Ytmhnhfmkcipcpaa.LineDo
open Go Go.RowKit Go.Deep Go.Proofs.Ytmhnhfmkcipcpaa.Hk Go.Proofs.Ytmhnhfmkcipcpaa.Heap Go.Proofs.Ytmhnhfmkcipcpaa.Stack Go.Proofs.Ytmhnhfmkcipcpaa.Seen Go.Proofs.Ytmhnhfmkcipcpaa.Lists Go.Proofs.Ytmhnhfmkcipcpaa.LnFn Go.Proofs.Ytmhnhfmkcipcpaa.LinePure Go.Proofs.Ytmhnhfmkcipcpaa.LineEv Go.Proofs.YtmhnhfmkcipcpaaW.PrintWords Go.Proofs.YtmhnhfmkcipcpaaW.PrintLast Go.Proofs.YtmhnhfmkcipcpaaW.PrintMore
theorem undSteps : Try.prog.underlying 22 = some (.slice 27) := by kernel_rfl
theorem infoStep : (Try.prog.info? 27).map (fun i => (i.zero, i.size, i.bytes)) = some (some (.agg #[.int .i64 0, .int .i64 0, .int .i64 0, .int .i64 0]), 4, 32) := by kernel_rfl
abbrev stC (a : St) : Array Value := #[.int .i64 a.1, .int .i64 a.2.1, .int .i64 a.2.2.1, .int .i64 a.2.2.2]
/-- The list, and what has been put out. -/
structure Lf (Lb : Nat) (w0 W : World) (vp rp : Sl) (b : Line) (out : Value) (rs : List St) : Prop where
  line : Blk W Lb #[slV vp, slV rp] 61
  lv : Lies W vp b.1
  lr : Lies W rp (ints b.2)
  out : stK.R 27 W w0.heap.size (fun _ => True) out rs
  below : Below w0.heap.size w0 W
  ge : w0.heap.size ≤ Lb
/-- .. and a step's own block. -/
structure Lq (Lb q : Nat) (w0 W : World) (vp rp : Sl) (b : Line) (out : Value) (rs : List St) (a : St) : Prop where
  f : Lf Lb w0 W vp rp b out rs
  step : Blk W q (stC a) 27
  off : ∀ k, out.ownBlock = some k → k ≠ q
  geq : w0.heap.size ≤ q
section
variable {Lb q : Nat} {w0 W W1 : World} {vp rp vp' rp' : Sl} {b b' : Line} {out v1 : Value} {rs : List St} {a a' : St}
theorem Lf.big (h : Lf Lb w0 W vp rp b out rs) : w0.heap.size ≤ W.heap.size := h.below.size
theorem Lf.later (h : Lf Lb w0 W vp rp b out rs) (hB : Below W.heap.size W W1) : Lf Lb w0 W1 vp rp b out rs :=
  ⟨h.line.below hB h.line.lt, h.lv.below hB, h.lr.below hB, Kd.R_below h.out hB, below_at h.below hB h.below.size, h.ge⟩
theorem Lq.later (h : Lq Lb q w0 W vp rp b out rs a) (hB : Below W.heap.size W W1) : Lq Lb q w0 W1 vp rp b out rs a := ⟨h.f.later hB, h.step.below hB h.step.lt, h.off, h.geq⟩
theorem Lf.start (h : Lf Lb w0 W vp rp b out rs) (a : St) : Lq Lb W.heap.size w0 (W.alloc (.cells (stC a) 27)) vp rp b out rs a :=
  ⟨h.later ((Below.refl _ _).alloc (Nat.le_refl _) _), Blk.new _ _ _, fun k hk => by have := Kd.R_lt h.out k hk; omega, h.below.size⟩
/-- A cell of the step's own block set. -/
theorem Lq.set (h : Lq Lb q w0 W vp rp b out rs a) (i : Nat) (u : Value) : Lf Lb w0 (W.setCell ⟨q, i, none⟩ u) vp rp b out rs ∧ Blk (W.setCell ⟨q, i, none⟩ u) q ((stC a).setIfInBounds i u) 27 := by
  have hF : Fr (· = q) W (W.setCell ⟨q, i, none⟩ u) := Fr.one
  have hZ : ∀ e, 27 ≠ e → ∀ g, g = q → ∃ cs t, W.heap[g]? = some (.cells cs t (0, 0)) ∧ t ≠ e := fun e hne g hg => by subst hg; exact ⟨_, _, h.step, hne⟩
  refine ⟨⟨blk_fr h.f.line hF (hZ _ (by decide)), h.f.lv.fr hF (hZ _ (by decide)), h.f.lr.fr hF (hZ _ (by decide)), ?_, h.f.below.trans (hF.below h.f.below.size (fun k hk => by rw [hk]; exact h.geq)), h.f.ge⟩, h.step.set i u⟩
  exact Kd.R_mono (Kd.R_step (Kd.R_reok (ok := fun g => some g = out.ownBlock) rfl h.f.out (fun _ hk => hk.symm)) (fun g hg hlt => hF.block g hlt (fun e => h.off g hg.symm e))) (fun _ _ => trivial)
theorem Lq.set3 (h : Lq Lb q w0 W vp rp b out rs a) (v : Int) : Lq Lb q w0 (W.setCell ⟨q, 3, none⟩ (.int .i64 v)) vp rp b out rs (a.1, a.2.1, a.2.2.1, v) := ⟨(h.set 3 _).1, (h.set 3 _).2, h.off, h.geq⟩
theorem Lq.set5 (h : Lq Lb q w0 W vp rp b out rs a) : Lq Lb q w0 ((((W.setCell ⟨q, 0, none⟩ (.int .i64 0)).setCell ⟨q, 1, none⟩ (.int .i64 5)).setCell ⟨q, 2, none⟩ (.int .i64 0)).setCell ⟨q, 3, none⟩ (.int .i64 0)) vp rp b out rs (0, 5, 0, 0) := by
  have h0 : Lq Lb q w0 (W.setCell ⟨q, 0, none⟩ (.int .i64 0)) vp rp b out rs (0, a.2.1, a.2.2.1, a.2.2.2) := ⟨(h.set 0 _).1, (h.set 0 _).2, h.off, h.geq⟩
  have h1 : Lq Lb q w0 ((W.setCell ⟨q, 0, none⟩ (.int .i64 0)).setCell ⟨q, 1, none⟩ (.int .i64 5)) vp rp b out rs (0, 5, a.2.2.1, a.2.2.2) := ⟨(h0.set 1 _).1, (h0.set 1 _).2, h.off, h.geq⟩
  have h2 : Lq Lb q w0 (((W.setCell ⟨q, 0, none⟩ (.int .i64 0)).setCell ⟨q, 1, none⟩ (.int .i64 5)).setCell ⟨q, 2, none⟩ (.int .i64 0)) vp rp b out rs (0, 5, 0, a.2.2.2) := ⟨(h1.set 2 _).1, (h1.set 2 _).2, h.off, h.geq⟩
  exact ⟨(h2.set 3 _).1, (h2.set 3 _).2, h.off, h.geq⟩
/-- The list turned. -/
theorem Lq.turn (h : Lq Lb q w0 W vp rp b out rs a) (hV : Lies W vp' b'.1) (hR : Lies W rp' (ints b'.2)) : Lq Lb q w0 ((W.setCell ⟨Lb, 0, none⟩ (slV vp')).setCell ⟨Lb, 1, none⟩ (slV rp')) vp' rp' b' out rs a := by
  have one : ∀ (W : World) (cs : Array Value) (i : Nat) (u : Value), Blk W Lb cs 61 → (Fr (· = Lb) W (W.setCell ⟨Lb, i, none⟩ u)) ∧ ∀ e, 61 ≠ e → ∀ g, g = Lb → ∃ cs t, W.heap[g]? = some (.cells cs t (0, 0)) ∧ t ≠ e :=
    fun W cs i u hb => ⟨Fr.one, fun e hne g hg => by subst hg; exact ⟨_, _, hb, hne⟩⟩
  obtain ⟨F1, Z1⟩ := one W _ 0 (slV vp') h.f.line
  have b1 := h.f.line.set 0 (slV vp')
  obtain ⟨F2, Z2⟩ := one _ _ 1 (slV rp') b1
  refine ⟨⟨b1.set 1 _, (hV.fr F1 (Z1 _ (by decide))).fr F2 (Z2 _ (by decide)), (hR.fr F1 (Z1 _ (by decide))).fr F2 (Z2 _ (by decide)), row_fr (d := stK) rfl (row_fr (d := stK) rfl h.f.out F1 (Z1 _ (by decide))) F2 (Z2 _ (by decide)), ?_, h.f.ge⟩, blk_fr (blk_fr h.step F1 (Z1 _ (by decide))) F2 (Z2 _ (by decide)), h.off, h.geq⟩
  exact (h.f.below.trans (F1.below h.f.below.size (fun k hk => by rw [hk]; exact h.f.ge))).trans (F2.below (Nat.le_trans h.f.below.size F1.size) (fun k hk => by rw [hk]; exact h.f.ge))
/-- The step put out. -/
theorem Lf.put {rs' : List St} (h : Lf Lb w0 W vp rp b out rs) (hR : stK.R 27 W1 w0.heap.size (fun _ => True) v1 rs') (hg : W.grownBy W1 out.ownBlock) : Lf Lb w0 W1 vp rp b v1 rs' := by
  have hF : Fr (fun k => some k = out.ownBlock) W W1 := Fr.of_grown hg
  have hZ : ∀ e, 27 ≠ e → ∀ g, some g = out.ownBlock → ∃ cs t, W.heap[g]? = some (.cells cs t (0, 0)) ∧ t ≠ e := fun e hne g q => by
    obtain ⟨cs, h'⟩ := row_typed h.out g q
    exact ⟨cs, _, h', hne⟩
  exact ⟨blk_fr h.line hF (hZ _ (by decide)), h.lv.fr hF (hZ _ (by decide)), h.lr.fr hF (hZ _ (by decide)), hR, h.below.trans (hF.below h.below.size (fun k hk => Kd.R_base h.out k hk.symm)), h.ge⟩
end
/-- What holds between the steps. -/
structure Lt (Lb : Nat) (w0 : World) (l : List St) (i : Nat) (vp rp : Sl) (b : Line) (out : Value) (rs : List St) (W : World) : Prop where
  f : Lf Lb w0 W vp rp b out rs
  sub : Sub b
  len : b.1.length ≤ i ∧ b.2.length ≤ i
  many : rs.length = i
  fit : rs ++ fitL b (l.drop i) = fitL ([], []) l
theorem st_M {w : World} {base : Nat} {ok : Nat → Prop} (a : St) : stK.M w base ok a [.int .i64 a.1, .int .i64 a.2.1, .int .i64 a.2.2.1, .int .i64 a.2.2.2] :=
  ⟨[_], [_, _, _], rfl, rfl, [_], [_, _], rfl, rfl, [_], [_], rfl, rfl, rfl⟩
def needs (b : Line) (a : St) : Bool := decide (0 < b.1.length ∧ (a.2.1 = 2 ∨ a.2.1 = 3 ∨ a.2.1 = 4 ∨ a.2.1 = 7 ∨ a.2.1 = 8))
def fin1 (b : Line) (a : St) : St := if mayB b.1 (ints b.2) a.2.1 a.2.2.2 = true then a else (0, 5, 0, 0)
theorem fin1_may (b : Line) (a : St) : May b (fin1 b a) := by
  unfold fin1
  split
  · rename_i h
    exact (may_iff b a.1 a.2.1 a.2.2.1 a.2.2.2).1 h
  · exact ⟨fun e => by simp at e, fun e => by simp at e⟩
set_option maxHeartbeats 16000000 in
set_option maxRecDepth 100000 in
theorem LineFit_any (A : Option Addr) (c : Nat) (l : List St) (w : World) (hS : Kd.C stK w A l.length l) (hl : l.length ≤ 274877906944) :
    Calls Try.prog 14 #[.slice A l.length c] w fun e w' => ∃ v, e = .returned v ∧ stK.R 27 w' w.heap.size (fun _ => True) v (fitL ([], []) l) ∧ Below w.heap.size w w' := by
  have HS := hid hS
  have HLL := hid hl
  clear hS
  go_enter Try.func14, Try.ntmps14
  go_upto_region 2 with fail
  have H0 : Hid (Lt w.heap.size w l 0 (none, 0, 0) (none, 0, 0) ([], []) (.slice none 0 0) [] (w.alloc (.cells NL 61))) := by
    have hB : Below w.heap.size w (w.alloc (.cells NL 61)) := (Below.refl _ _).alloc (Nat.le_refl _) _
    exact hid ⟨⟨Blk.new _ _ _, Lies.nil _, Lies.nil _, Kd.R_nil .., hB, Nat.le_refl _⟩, fun k hk => by simp at hk, ⟨Nat.le_refl _, Nat.le_refl _⟩, rfl, rfl⟩
  change Code.wp _ _ _ _ (w.alloc (.cells NL 61))
  generalize w.alloc (.cells NL 61) = W0 at H0 ⊢
  generalize hLb : w.heap.size = Lb at H0 ⊢
  have HLB := hid hLb
  clear hLb
  go_wp2_with fail
  go_loopg [4, 5] l.length (fun gk v4 v5 wr => ∃ (i : Nat) (b : Line) (vp rp : Sl) (rs : List St), v5 = .int .i64 i ∧ i ≤ l.length ∧ Hid (gk + i = l.length) ∧ Hid (Lt Lb w l i vp rp b v4 rs wr))
  case atStart => exact ⟨0, _, _, _, _, rfl, Nat.zero_le _, Nat.add_zero _, H0⟩
  case round =>
    obtain ⟨i, b, ⟨VA, vn, VC⟩, ⟨RA, rn, RC⟩, rs, rfl, hi, HG, HI⟩ := hrel
    have e1 : vn = b.1.length := HI.out.f.lv.len
    have e2 : rn = (ints b.2).length := HI.out.f.lr.len
    subst e1; subst e2
    by_cases hin : i < l.length
    · obtain ⟨ad, rfl, hx⟩ := at_st2 HS.out i hin
      have HX := hid hx
      have HD : Hid (l.drop i = l[i] :: l.drop (i + 1)) := List.drop_eq_getElem_cons hin
      generalize l[i] = a at HX HD
      obtain ⟨o, d, key, val⟩ := a
      have HIN := hid hin
      have HLN : Hid (b.1.length ≤ 274877906944 ∧ b.2.length ≤ 274877906944) := hid (by have := HI.out.len; omega)
      obtain ⟨kg, rfl⟩ : ∃ kg, gk = kg + 1 := ⟨gk - 1, by have := HG.out; omega⟩
      have x0 : wr.cell? (ad.add (i * 4)) = some (.int .i64 o) := (HX.out wr HI.out.f.below).1
      have x1 : wr.cell? ⟨(ad.add (i * 4)).block, (ad.add (i * 4)).off + 1, none⟩ = some (.int .i64 d) := (HX.out wr HI.out.f.below).2.1
      have x2 : wr.cell? ⟨(ad.add (i * 4)).block, (ad.add (i * 4)).off + 2, none⟩ = some (.int .i64 key) := (HX.out wr HI.out.f.below).2.2.1
      have x3 : wr.cell? ⟨(ad.add (i * 4)).block, (ad.add (i * 4)).off + 3, none⟩ = some (.int .i64 val) := (HX.out wr HI.out.f.below).2.2.2
      clear hx
      go_upto_region 7 with fail
      clear x0 x1 x2 x3
      have HQ := hid (HI.out.f.start (o, d, key, val))
      have HI2 : Hid (Sub b ∧ (b.1.length ≤ i ∧ b.2.length ≤ i) ∧ rs.length = i ∧ rs ++ fitL b (l.drop i) = fitL ([], []) l) := hid ⟨HI.out.sub, HI.out.len, HI.out.many, HI.out.fit⟩
      clear HI
      change Code.wp _ _ _ _ (wr.alloc (.cells (stC (o, d, key, val)) 27))
      generalize wr.alloc (.cells (stC (o, d, key, val)) 27) = W at HQ ⊢
      generalize wr.heap.size = q at HQ ⊢
      have c0 : W.cell? ⟨Lb, 0, none⟩ = some (.slice VA b.1.length VC) := HQ.out.f.line.cell 0
      have kd : W.cell? ⟨q, 1, none⟩ = some (.int .i64 d) := HQ.out.step.cell 1
      go_upto_region 8 with fail
      go_cut [47] (fun vb wx => vb = .bool (needs b (o, d, key, val)) ∧ Hid (wx = W))
      case first =>
        by_cases hn : 0 < b.1.length
        · have hn1 : (0 : Int) < (b.1.length : Int) := by omega
          have hn2 : decide ((0 : Int) < (b.1.length : Int)) = true := decide_eq_true hn1
          have hn3 : decide (0 < b.1.length) = true := decide_eq_true hn
          by_cases h2 : d = 2
          · subst h2
            have HE : Hid (needs b (o, 2, key, val) = true) := hid (decide_eq_true ⟨by omega, by simp⟩)
            go_wp2_with fail
            go_meet
            case rel => exact ⟨by rw [HE.out], hid rfl⟩
          · have hz2 : (d == 2) = false := beq_eq_false_iff_ne.2 h2
            by_cases h3 : d = 3
            · subst h3
              have HE : Hid (needs b (o, 3, key, val) = true) := hid (decide_eq_true ⟨by omega, by simp⟩)
              go_wp2_with fail
              go_meet
              case rel => exact ⟨by rw [HE.out], hid rfl⟩
            · have hz3 : (d == 3) = false := beq_eq_false_iff_ne.2 h3
              by_cases h4 : d = 4
              · subst h4
                have HE : Hid (needs b (o, 4, key, val) = true) := hid (decide_eq_true ⟨by omega, by simp⟩)
                go_wp2_with fail
                go_meet
                case rel => exact ⟨by rw [HE.out], hid rfl⟩
              · have hz4 : (d == 4) = false := beq_eq_false_iff_ne.2 h4
                by_cases h7 : d = 7
                · subst h7
                  have HE : Hid (needs b (o, 7, key, val) = true) := hid (decide_eq_true ⟨by omega, by simp⟩)
                  go_wp2_with fail
                  go_meet
                  case rel => exact ⟨by rw [HE.out], hid rfl⟩
                · have hz7 : (d == 7) = false := beq_eq_false_iff_ne.2 h7
                  by_cases h8 : d = 8
                  · subst h8
                    have HE : Hid (needs b (o, 8, key, val) = true) := hid (decide_eq_true ⟨by omega, by simp⟩)
                    go_wp2_with fail
                    go_meet
                    case rel => exact ⟨by rw [HE.out], hid rfl⟩
                  · have hz8 : (d == 8) = false := beq_eq_false_iff_ne.2 h8
                    have HE : Hid (needs b (o, d, key, val) = false) := hid (decide_eq_false (fun e => by have e2 := e.2; simp only at e2; omega))
                    go_wp2_with fail
                    go_meet
                    case rel => exact ⟨by rw [HE.out], hid rfl⟩
        · have hn1 : ¬ (0 : Int) < (b.1.length : Int) := by omega
          have hn2 : decide ((0 : Int) < (b.1.length : Int)) = false := decide_eq_false hn1
          have hn3 : decide (0 < b.1.length) = false := decide_eq_false hn
          have HE : Hid (needs b (o, d, key, val) = false) := hid (decide_eq_false (fun e => hn e.1))
          go_wp2_with fail
          go_meet
          case rel => exact ⟨by rw [HE.out], hid rfl⟩
      case rest =>
        obtain ⟨rfl, hw⟩ := hcut
        obtain rfl := hw.out
        clear hw c0 kd
        go_upto_if 47 with fail
        go_cut [] (fun wx => Hid (Lq Lb q w wx (VA, b.1.length, VC) (RA, (ints b.2).length, RC) b u4 rs (turn1 b (o, d, key, val))))
        case first =>
          by_cases hb : needs b (o, d, key, val) = true
          · have HE : Hid (turn1 b (o, d, key, val) = (o, d, key, val % (b.1.length : Int))) := hid (if_pos (of_decide_eq_true hb))
            have hn : 0 < b.1.length := (of_decide_eq_true hb).1
            have hn1 : (0 : Int) < (b.1.length : Int) := by omega
            rw [hb]
            clear hb
            have k3 : wc.cell? ⟨q, 3, none⟩ = some (.int .i64 val) := HQ.out.step.cell 3
            go_wp2_with fail
            refine (smod_any val (b.1.length : Int) wc (by omega) (by have := HLN.out; omega)).mono ?_
            rintro e w3 ⟨rfl, rfl⟩
            obtain ⟨wc, rfl⟩ : ∃ wc, wc = w3 := ⟨_, rfl⟩
            have f3 : wc.frozen? ⟨q, 3, none⟩ = false := HQ.out.step.free 3
            have H2 := hid (HQ.out.set3 (val % (b.1.length : Int)))
            go_wp2_with fail
            go_meet
            case rel => exact (by rw [HE.out]; exact H2.out)
          · have hb2 : needs b (o, d, key, val) = false := by simpa using hb
            have HE : Hid (turn1 b (o, d, key, val) = (o, d, key, val)) := hid (if_neg (of_decide_eq_false hb2))
            rw [hb2]
            clear hb hb2
            go_wp2_with fail
            go_meet
            case rel => exact (by rw [HE.out]; exact HQ.out)
        case rest =>
          have HQ := hcut
          clear hcut
          obtain ⟨a1, ha1⟩ : ∃ a1, turn1 b (o, d, key, val) = a1 := ⟨_, rfl⟩
          rw [ha1] at HQ
          have HA1 := hid ha1
          clear ha1
          obtain ⟨W, rfl⟩ : ∃ W, W = wc := ⟨_, rfl⟩
          have c0 : W.cell? ⟨Lb, 0, none⟩ = some (.slice VA b.1.length VC) := HQ.out.f.line.cell 0
          have c1 : W.cell? ⟨Lb, 1, none⟩ = some (.slice RA (ints b.2).length RC) := HQ.out.f.line.cell 1
          have k0 : W.cell? ⟨q, 0, none⟩ = some (.int .i64 a1.1) := HQ.out.step.cell 0
          have k1 : W.cell? ⟨q, 1, none⟩ = some (.int .i64 a1.2.1) := HQ.out.step.cell 1
          have k2 : W.cell? ⟨q, 2, none⟩ = some (.int .i64 a1.2.2.1) := HQ.out.step.cell 2
          have k3 : W.cell? ⟨q, 3, none⟩ = some (.int .i64 a1.2.2.2) := HQ.out.step.cell 3
          obtain ⟨km, hkm⟩ := (may_ev b.1 (ints b.2) a1.1 a1.2.1 a1.2.2.1 a1.2.2.2 (by rw [ints_len]; have := HLN.out; omega)).rounds
          have HKM := hid hkm
          clear hkm
          obtain ⟨mb, hmb⟩ : ∃ mb, mayB b.1 (ints b.2) a1.2.1 a1.2.2.2 = mb := ⟨_, rfl⟩
          rw [hmb] at HKM
          have HMB := hid hmb
          clear hmb
          go_upto_if 56 with ((go_at_call 38; refine (spec_Line_May.calls km VA VC b.1 RA RC (ints b.2) a1.1 a1.2.1 a1.2.2.1 a1.2.2.2 mb W HQ.out.f.lv.cells HQ.out.f.lv.cap HQ.out.f.lr.cells HQ.out.f.lr.cap HKM.out).mono ?_; rintro e W2 ⟨rfl, hB⟩; have H2 := hid (HQ.out.later hB); clear hB c0 c1 k0 k1 k2 k3 HQ))
          go_cut [] (fun wx => Hid (Lq Lb q w wx (VA, b.1.length, VC) (RA, (ints b.2).length, RC) b u4 rs (fin1 b a1)))
          case first =>
            cases mb with
            | true =>
              have HE : Hid (fin1 b a1 = a1) := hid (if_pos HMB.out)
              go_wp2_with fail
              go_meet
              case rel => exact (by rw [HE.out]; exact H2.out)
            | false =>
              have HE : Hid (fin1 b a1 = (0, 5, 0, 0)) := hid (if_neg (by rw [HMB.out]; simp))
              have k0 : W2.cell? ⟨q, 0, none⟩ = some (.int .i64 a1.1) := H2.out.step.cell 0
              have k1 : W2.cell? ⟨q, 1, none⟩ = some (.int .i64 a1.2.1) := H2.out.step.cell 1
              have k2 : W2.cell? ⟨q, 2, none⟩ = some (.int .i64 a1.2.2.1) := H2.out.step.cell 2
              have k3 : W2.cell? ⟨q, 3, none⟩ = some (.int .i64 a1.2.2.2) := H2.out.step.cell 3
              have f0 : W2.frozen? ⟨q, 0, none⟩ = false := H2.out.step.free 0
              have f1 : W2.frozen? ⟨q, 1, none⟩ = false := H2.out.step.free 1
              have f2 : W2.frozen? ⟨q, 2, none⟩ = false := H2.out.step.free 2
              have f3 : W2.frozen? ⟨q, 3, none⟩ = false := H2.out.step.free 3
              have H3 := hid H2.out.set5
              go_wp2_with fail
              go_meet
              case rel => exact (by rw [HE.out]; exact H3.out)
          case rest =>
            have HQ := hcut
            clear hcut H2
            have HM : Hid (May b (fin1 b a1)) := hid (fin1_may b a1)
            have HF : Hid (fit1 b (o, d, key, val) = fin1 b a1) := by
              unfold fit1
              rw [HA1.out]
              exact hid rfl
            obtain ⟨a2, ha2⟩ : ∃ a2, fin1 b a1 = a2 := ⟨_, rfl⟩
            rw [ha2] at HQ HM HF
            clear ha2
            obtain ⟨W, rfl⟩ : ∃ W, W = wc := ⟨_, rfl⟩
            have c0 : W.cell? ⟨Lb, 0, none⟩ = some (.slice VA b.1.length VC) := HQ.out.f.line.cell 0
            have c1 : W.cell? ⟨Lb, 1, none⟩ = some (.slice RA (ints b.2).length RC) := HQ.out.f.line.cell 1
            have k0 : W.cell? ⟨q, 0, none⟩ = some (.int .i64 a2.1) := HQ.out.step.cell 0
            have k1 : W.cell? ⟨q, 1, none⟩ = some (.int .i64 a2.2.1) := HQ.out.step.cell 1
            have k2 : W.cell? ⟨q, 2, none⟩ = some (.int .i64 a2.2.2.1) := HQ.out.step.cell 2
            have k3 : W.cell? ⟨q, 3, none⟩ = some (.int .i64 a2.2.2.2) := HQ.out.step.cell 3
            go_wp2_with fail
            refine (lDo_any W (VA, b.1.length, VC) (RA, (ints b.2).length, RC) b a2.1 a2.2.1 a2.2.2.1 a2.2.2.2 HQ.out.f.lv HQ.out.f.lr HM.out HI2.out.1 (by have := HLN.out; omega)).mono ?_
            rintro e W4 ⟨⟨VA', vn', VC'⟩, ⟨RA', rn', RC'⟩, kv, rfl, hV, hR, _, hB⟩
            dsimp only [slV]
            have H4 := hid (HQ.out.later hB)
            have HVR := hid (And.intro hV hR)
            clear hV hR hB HQ c0 c1 k0 k1 k2 k3
            have c0 : W4.cell? ⟨Lb, 0, none⟩ = some (.slice VA b.1.length VC) := H4.out.f.line.cell 0
            have c1 : W4.cell? ⟨Lb, 1, none⟩ = some (.slice RA (ints b.2).length RC) := H4.out.f.line.cell 1
            have f0 : W4.frozen? ⟨Lb, 0, none⟩ = false := H4.out.f.line.free 0
            have f1 : W4.frozen? ⟨Lb, 1, none⟩ = false := H4.out.f.line.free 1
            have H5 := hid (H4.out.turn HVR.out.1 HVR.out.2)
            clear H4
            go_upto_region 13 with fail
            clear c0 c1 f0 f1
            change Code.wp _ _ _ _ ((W4.setCell ⟨Lb, 0, none⟩ (slV (VA', vn', VC'))).setCell ⟨Lb, 1, none⟩ (slV (RA', rn', RC')))
            generalize (W4.setCell ⟨Lb, 0, none⟩ (slV (VA', vn', VC'))).setCell ⟨Lb, 1, none⟩ (slV (RA', rn', RC')) = W5 at H5 ⊢
            have k0 : W5.cell? ⟨q, 0, none⟩ = some (.int .i64 a2.1) := H5.out.step.cell 0
            have k1 : W5.cell? ⟨q, 1, none⟩ = some (.int .i64 a2.2.1) := H5.out.step.cell 1
            have k2 : W5.cell? ⟨q, 2, none⟩ = some (.int .i64 a2.2.2.1) := H5.out.step.cell 2
            have k3 : W5.cell? ⟨q, 3, none⟩ = some (.int .i64 a2.2.2.2) := H5.out.step.cell 3
            have HRL : Hid (rs.length = i) := hid HI2.out.2.2.1
            have HT : Hid (rs ++ [a2] ++ fitL (stepL b a2) (l.drop (i + 1)) = fitL ([], []) l ∧ Sub (stepL b a2) ∧ (stepL b a2).1.length ≤ i + 1 ∧ (stepL b a2).2.length ≤ i + 1) := by
              have h1 := HI2.out.2.2.2
              have h2 := HI2.out.2.1
              have h3 := step_len b a2
              rw [HD.out] at h1
              simp only [fitL] at h1
              rw [HF.out] at h1
              exact hid ⟨by rw [List.append_assoc]; exact h1, step_sub HI2.out.1 HM.out, by omega, by omega⟩
            go_wp2_with ((with_reducible refine gate_builtin (b := .append) (xs := #[.tmp 64, .tmp 66]) rfl ?_); at_builtin; refine Kd.R_append stK (W := W5) (w0 := W5) w.heap.size rfl (.tmp 64) (.tmp 66) 22 27 (.agg #[.int .i64 0, .int .i64 0, .int .i64 0, .int .i64 0]) 32 rfl undSteps infoStep rfl (by decide) (by omega) u4 rs a2 [.int .i64 a2.1, .int .i64 a2.2.1, .int .i64 a2.2.2.1, .int .i64 a2.2.2.2] (fun _ => True) (fun _ => False) rfl rfl ?aP (fun _ hk => hk.elim) (fun _ _ => trivial) ?aO ?aB ?aS ?aL ?_; (case aP => exact st_M _); (case aO => exact H5.out.f.out); (case aB => exact Below.refl _ _); (case aS => exact H5.out.f.big); (case aL => have h1_ := HRL.out; have h2_ := HIN.out; have h3_ := HLL.out; omega); intro v1 W6 ho _ hg hat; have H6 := hid (H5.out.f.put ho hg); clear ho hg hat)
            have hi1 := HIN.out
            go_roundg kg
            case measure => omega
            case rel => exact ⟨i + 1, _, _, _, _, rfl, HIN.out, by have := HG.out; show kg + (i + 1) = l.length; omega, hid ⟨H6.out, HT.out.2.1, ⟨HT.out.2.2.1, HT.out.2.2.2⟩, by rw [List.length_append, HRL.out]; rfl, HT.out.1⟩⟩
    · have e : i = l.length := by omega
      subst e
      have HF : Hid (rs = fitL ([], []) l) := by
        have h1 := HI.out.fit
        rw [List.drop_length] at h1
        exact hid (by simpa [fitL] using h1)
      go_wp2_with fail
      go_ret
      exact ⟨_, rfl, by rw [← HF.out]; exact HI.out.f.out, HI.out.f.below⟩
end Go.Proofs.Ytmhnhfmkcipcpaa.LineDo

namespace Go.Proofs.Ytmhnhfmkcipcpaa.LineDo
open Go Go.RowKit Go.Deep Go.Proofs.Ytmhnhfmkcipcpaa.Hk Go.Proofs.Ytmhnhfmkcipcpaa.Heap Go.Proofs.Ytmhnhfmkcipcpaa.Stack Go.Proofs.Ytmhnhfmkcipcpaa.Seen Go.Proofs.Ytmhnhfmkcipcpaa.Lists Go.Proofs.Ytmhnhfmkcipcpaa.LnFn Go.Proofs.Ytmhnhfmkcipcpaa.LinePure Go.Proofs.Ytmhnhfmkcipcpaa.LineEv Go.Proofs.YtmhnhfmkcipcpaaW.PrintWords Go.Proofs.YtmhnhfmkcipcpaaW.PrintLast Go.Proofs.YtmhnhfmkcipcpaaW.PrintMore
def lls7.T : Bool × List (List Nat × List Nat) := (true, [([], []), ([], []), ([], []), ([1, 2], [1, 2]), ([3], [3]), ([0, 4], [0, 4]), ([5], [5]), ([6], [6]), ([6], [6]), ([7, 5, 0, 1, 2, 3, 4, 5, 6, 7], [7]), ([8, 9, 0, 1, 2, 3, 4, 5, 6, 7, 8, 9], [8])])
def lls7.B : List Nat := [0, 0, 0, 6, 14, 31, 63, 127, 127, 255, 1023]
theorem lls7.tab : rtab .any (opsOf Try.f16 7) = lls7.T := by kernel_rfl
theorem lls7.bits : waitsOk lls7.T.2 lls7.B = true := by kernel_rfl
/-- The list, and what has been told. -/
structure Lg (Lb : Nat) (w0 W : World) (vp rp : Sl) (b : Line) (ok : Nat → Prop) (out : Value) (rs : List Told4) : Prop where
  line : Blk W Lb #[slV vp, slV rp] 61
  lv : Lies W vp b.1
  lr : Lies W rp (ints b.2)
  out : Kd.S seenK 34 W w0.heap.size ok out rs
  below : Below w0.heap.size w0 W
  ge : w0.heap.size ≤ Lb
section
variable {Lb q : Nat} {w0 W W1 : World} {vp rp vp' rp' : Sl} {b b' : Line} {ok : Nat → Prop} {out v1 : Value} {rs rs' : List Told4}
theorem S_keep {Z : Nat → Prop} (h : Kd.S seenK 34 W w0.heap.size ok out rs) (hF : Fr Z W W1) (hZ : ∀ k, ok k → (∃ cs t, W.heap[k]? = some (.cells cs t (0, 0)) ∧ (t = 34 ∨ t = 3)) → ¬ Z k) : Kd.S seenK 34 W1 w0.heap.size ok out rs := by
  refine Kd.S_mono (Kd.S_step (Kd.S_bound h) (fun k hk hlt => hF.block k hlt (hZ k hk.1 ?_))) (fun _ hk => hk.1)
  obtain ⟨_, _, _, q, hq, cs, hc⟩ := hk
  have hq' : q ∈ [34, 3, 3] := hq
  exact ⟨cs, q, hc, by simpa using hq'⟩
theorem Lg.later (h : Lg Lb w0 W vp rp b ok out rs) (hB : Below W.heap.size W W1) : Lg Lb w0 W1 vp rp b ok out rs :=
  ⟨h.line.below hB h.line.lt, h.lv.below hB, h.lr.below hB, Kd.S_below h.out hB, below_at h.below hB h.below.size, h.ge⟩
theorem Lg.bound (h : Lg Lb w0 W vp rp b ok out rs) : Lg Lb w0 W vp rp b (fun k => True ∧ ¬ W.heap.size ≤ k) out rs :=
  ⟨h.line, h.lv, h.lr, Kd.S_mono (Kd.S_bound h.out) (fun k hk => ⟨trivial, by have := hk.2.2.1; omega⟩), h.below, h.ge⟩
theorem not_line {k : Nat} {cs : Array Value} (hb : Blk W Lb cs 61) (h : ∃ cs t, W.heap[k]? = some (.cells cs t (0, 0)) ∧ (t = 34 ∨ t = 3)) : ¬ k = Lb := fun e => by
  subst e
  obtain ⟨cs', t, hc, ht⟩ := h
  have h2 : W.heap[k]? = some (.cells cs 61 (0, 0)) := hb
  rw [h2] at hc
  injection hc with hc
  injection hc with _ hc
  subst hc
  rcases ht with q | q <;> exact absurd q (by decide)
/-- The list turned. -/
theorem Lg.turn (h : Lg Lb w0 W vp rp b ok out rs) (hV : Lies W vp' b'.1) (hR : Lies W rp' (ints b'.2)) : Lg Lb w0 ((W.setCell ⟨Lb, 0, none⟩ (slV vp')).setCell ⟨Lb, 1, none⟩ (slV rp')) vp' rp' b' ok out rs ∧
    Fr (· = Lb) W ((W.setCell ⟨Lb, 0, none⟩ (slV vp')).setCell ⟨Lb, 1, none⟩ (slV rp')) := by
  have hF : Fr (· = Lb) W ((W.setCell ⟨Lb, 0, none⟩ (slV vp')).setCell ⟨Lb, 1, none⟩ (slV rp')) := Fr.one.then Fr.one
  have hZ : ∀ e, 61 ≠ e → ∀ g, g = Lb → ∃ cs t, W.heap[g]? = some (.cells cs t (0, 0)) ∧ t ≠ e := fun e hne g hg => by subst hg; exact ⟨_, _, h.line, hne⟩
  exact ⟨⟨(h.line.set 0 (slV vp')).set 1 _, hV.fr hF (hZ _ (by decide)), hR.fr hF (hZ _ (by decide)), S_keep h.out hF (fun k _ ht => not_line h.line ht), h.below.trans (hF.below h.below.size (fun k hk => by rw [hk]; exact h.ge)), h.ge⟩, hF⟩
/-- The step's own block set. -/
theorem Lg.seen {W2 : World} {cs : Array Value} (h : Lg Lb w0 W vp rp b (fun k => True ∧ ¬ q ≤ k) out rs) (hb : Blk W q cs 34) (hq : w0.heap.size ≤ q) (hF : Fr (· = q) W W2) : Lg Lb w0 W2 vp rp b (fun k => True ∧ ¬ q ≤ k) out rs := by
  have hZ : ∀ e, 34 ≠ e → ∀ g, g = q → ∃ cs t, W.heap[g]? = some (.cells cs t (0, 0)) ∧ t ≠ e := fun e hne g hg => by subst hg; exact ⟨_, _, hb, hne⟩
  exact ⟨blk_fr h.line hF (hZ _ (by decide)), h.lv.fr hF (hZ _ (by decide)), h.lr.fr hF (hZ _ (by decide)), S_keep h.out hF (fun k hk _ e => hk.2 (by omega)), h.below.trans (hF.below h.below.size (fun k hk => by rw [hk]; exact hq)), h.ge⟩
theorem Lg.put (h : Lg Lb w0 W vp rp b ok out rs) (hR : Kd.S seenK 34 W1 w0.heap.size (fun _ => True) v1 rs') (hg : W.grownBy W1 out.ownBlock) : Lg Lb w0 W1 vp rp b (fun _ => True) v1 rs' := by
  have hF : Fr (fun k => some k = out.ownBlock) W W1 := Fr.of_grown hg
  have hZ : ∀ e, 34 ≠ e → ∀ g, some g = out.ownBlock → ∃ cs t, W.heap[g]? = some (.cells cs t (0, 0)) ∧ t ≠ e := fun e hne g q => by
    obtain ⟨inner, ho⟩ := Kd.R_own (Kd.S_R h.out)
    obtain ⟨cs, h'⟩ := own_typed ho g q.symm
    exact ⟨cs, _, h', hne⟩
  exact ⟨blk_fr h.line hF (hZ _ (by decide)), h.lv.fr hF (hZ _ (by decide)), h.lr.fr hF (hZ _ (by decide)), hR, h.below.trans (hF.below h.below.size (fun k hk => Kd.S_base h.out k hk.symm)), h.ge⟩
end
/-- What holds between the steps. -/
structure Ls (Lb : Nat) (w0 : World) (l : List St) (i : Nat) (vp rp : Sl) (b : Line) (out : Value) (rs : List Told4) (W : World) : Prop where
  f : Lg Lb w0 W vp rp b (fun _ => True) out rs
  sub : Sub b
  len : b.1.length ≤ i ∧ b.2.length ≤ i
  many : rs.length = i
  may : MayAll b (l.drop i)
  told : rs ++ told4 (toldL b (l.drop i)) = told4 (toldL ([], []) l)
set_option maxHeartbeats 16000000 in
set_option maxRecDepth 100000 in
theorem Lines_any (A : Option Addr) (c : Nat) (l : List St) (w : World) (hS : Kd.C stK w A l.length l) (hM : MayAll ([], []) l) (hl : l.length ≤ 274877906944) :
    Calls Try.prog 16 #[.slice A l.length c] w fun e w' => ∃ v, e = .returned v ∧ Kd.S seenK 34 w' w.heap.size (fun _ => True) v (told4 (toldL ([], []) l)) ∧ Below w.heap.size w w' := by
  have HS := hid hS
  have HLL := hid hl
  have HMA := hid hM
  clear hS hM
  go_enter Try.func16, Try.ntmps16
  go_upto_region 2 with fail
  have H0 : Hid (Ls w.heap.size w l 0 (none, 0, 0) (none, 0, 0) ([], []) (.slice none 0 0) [] (w.alloc (.cells NL 61))) := by
    have hB : Below w.heap.size w (w.alloc (.cells NL 61)) := (Below.refl _ _).alloc (Nat.le_refl _) _
    exact hid ⟨⟨Blk.new _ _ _, Lies.nil _, Lies.nil _, Kd.S_nil .., hB, Nat.le_refl _⟩, fun k hk => by simp at hk, ⟨Nat.le_refl _, Nat.le_refl _⟩, rfl, HMA.out, rfl⟩
  change Code.wp _ _ _ _ (w.alloc (.cells NL 61))
  generalize w.alloc (.cells NL 61) = W0 at H0 ⊢
  generalize hLb : w.heap.size = Lb at H0 ⊢
  clear hLb HMA
  go_wp2_with fail
  go_loopg [4, 5] l.length (fun gk v4 v5 wr => ∃ (i : Nat) (b : Line) (vp rp : Sl) (rs : List Told4), v5 = .int .i64 i ∧ i ≤ l.length ∧ Hid (gk + i = l.length) ∧ Hid (Ls Lb w l i vp rp b v4 rs wr))
  case atStart => exact ⟨0, _, _, _, _, rfl, Nat.zero_le _, Nat.add_zero _, H0⟩
  case round =>
    obtain ⟨i, b, ⟨VA, vn, VC⟩, ⟨RA, rn, RC⟩, rs, rfl, hi, HG, HI⟩ := hrel
    have e1 : vn = b.1.length := HI.out.f.lv.len
    have e2 : rn = (ints b.2).length := HI.out.f.lr.len
    subst e1; subst e2
    by_cases hin : i < l.length
    · obtain ⟨ad, rfl, hx⟩ := at_st2 HS.out i hin
      have HX := hid hx
      have HD : Hid (l.drop i = l[i] :: l.drop (i + 1)) := List.drop_eq_getElem_cons hin
      generalize l[i] = a at HX HD
      obtain ⟨o, d, key, val⟩ := a
      have HIN := hid hin
      have hin2 : (i : Int) < (l.length : Int) := by omega
      have HLN : Hid (b.1.length ≤ 274877906944 ∧ b.2.length ≤ 274877906944) := hid (by have := HI.out.len; omega)
      obtain ⟨kg, rfl⟩ : ∃ kg, gk = kg + 1 := ⟨gk - 1, by have := HG.out; omega⟩
      clear hx
      have HQ : Hid (Lg Lb w (wr.alloc (.cells (F4k (.slice none 0 0)) 34)) (VA, b.1.length, VC) (RA, (ints b.2).length, RC) b (fun k => True ∧ ¬ wr.heap.size ≤ k) u4 rs ∧ Blk (wr.alloc (.cells (F4k (.slice none 0 0)) 34)) wr.heap.size (F4k (.slice none 0 0)) 34) := hid ⟨HI.out.f.bound.later ((Below.refl _ _).alloc (Nat.le_refl _) _), Blk.new _ _ _⟩
      have HGE : Hid (w.heap.size ≤ wr.heap.size) := hid HI.out.f.below.size
      have HOL : Hid (∀ k, u4.ownBlock = some k → k < wr.heap.size) := hid (Kd.S_lt HI.out.f.out)
      have HI2 : Hid (Sub b ∧ (b.1.length ≤ i ∧ b.2.length ≤ i) ∧ rs.length = i) := hid ⟨HI.out.sub, HI.out.len, HI.out.many⟩
      have HM : Hid (May b (o, d, key, val) ∧ MayAll (stepL b (o, d, key, val)) (l.drop (i + 1))) := by
        have h1 := HI.out.may
        rw [HD.out] at h1
        exact hid h1
      have HT : Hid (rs ++ [(0, false, tellL b (o, d, key, val), [])] ++ told4 (toldL (stepL b (o, d, key, val)) (l.drop (i + 1))) = told4 (toldL ([], []) l)) := by
        have h1 := HI.out.told
        rw [HD.out] at h1
        rw [List.append_assoc]
        exact hid h1
      clear HI
      go_upto_region 7 with fail
      change Code.wp _ _ _ _ (wr.alloc (.cells (F4k (.slice none 0 0)) 34))
      generalize wr.alloc (.cells (F4k (.slice none 0 0)) 34) = W at HQ ⊢
      generalize wr.heap.size = q at HQ HGE HOL ⊢
      have c0 : W.cell? ⟨Lb, 0, none⟩ = some (.slice VA b.1.length VC) := HQ.out.1.line.cell 0
      have c1 : W.cell? ⟨Lb, 1, none⟩ = some (.slice RA (ints b.2).length RC) := HQ.out.1.line.cell 1
      have x0 : W.cell? (ad.add (i * 4)) = some (.int .i64 o) := (HX.out W HQ.out.1.below).1
      have x1 : W.cell? ⟨(ad.add (i * 4)).block, (ad.add (i * 4)).off + 1, none⟩ = some (.int .i64 d) := (HX.out W HQ.out.1.below).2.1
      have x2 : W.cell? ⟨(ad.add (i * 4)).block, (ad.add (i * 4)).off + 2, none⟩ = some (.int .i64 key) := (HX.out W HQ.out.1.below).2.2.1
      have x3 : W.cell? ⟨(ad.add (i * 4)).block, (ad.add (i * 4)).off + 3, none⟩ = some (.int .i64 val) := (HX.out W HQ.out.1.below).2.2.2
      have HD : Hid (Lg Lb w W.drew (VA, b.1.length, VC) (RA, (ints b.2).length, RC) b (fun k => True ∧ ¬ q ≤ k) u4 rs ∧ Blk W.drew q (F4k (.slice none 0 0)) 34) := hid ⟨HQ.out.1.later ⟨rfl, rfl, rfl, Nat.le_refl _, fun _ _ => rfl⟩, HQ.out.2.drew⟩
      refine start_ (n := 11) (S := fun w' => w'.cell? ⟨Lb, 0, none⟩ = some (.slice VA b.1.length VC) ∧ w'.cell? ⟨Lb, 1, none⟩ = some (.slice RA (ints b.2).length RC) ∧ w'.cell? (ad.add (i * 4)) = some (.int .i64 o) ∧ w'.cell? ⟨(ad.add (i * 4)).block, (ad.add (i * 4)).off + 1, none⟩ = some (.int .i64 d) ∧ w'.cell? ⟨(ad.add (i * 4)).block, (ad.add (i * 4)).off + 2, none⟩ = some (.int .i64 key) ∧ w'.cell? ⟨(ad.add (i * 4)).block, (ad.add (i * 4)).off + 3, none⟩ = some (.int .i64 val)) (ds := [5, 9, 10]) #[false, false, false, false, false, false, false, false, false, false, false] (by kernel_rfl) rfl rfl ⟨c0, c1, x0, x1, x2, x3⟩ (fun hHeld => ?_)
      refine with_tabW lls7.tab lls7.bits (fun HT_ HW_ => ?_)
      clear c0 c1 x0 x1 x2 x3 HQ
      generalize W.drew = Wd at HD hHeld ⊢
      refine take_ (i := 0) (N := some 14) (v := ?_) (a' := ?_) #[true, false, false, false, false, false, false, false, false, false, false] rfl rfl (take_ofW HT_.out HW_.out (by kernel_rfl)) (fun _ _ _ h => h) (Or.inl ⟨by rfl, ?_⟩) hHeld ?_ ?_
      rotate_left
      · intro w' s0
        obtain ⟨s1, s2, s3, s4, s5, s6⟩ := s0
        go_simp
        with_reducible rfl
      rotate_left
      · simp only [Act.put, List.setIfInBounds_toArray, List.set_cons_zero, List.set_cons_succ]
        rfl
      refine pure_ (i := 1) (N := some 15) (v := ?_) (a' := ?_) #[true, true, false, false, false, false, false, false, false, false, false] rfl rfl (any_of HT_.out (by kernel_rfl)) (fun _ _ _ h => h) (Or.inl ⟨by rfl, ?_⟩) ?_ ?_
      rotate_left
      · intro w'
        go_simp
        with_reducible rfl
      rotate_left
      · simp only [Act.put, List.setIfInBounds_toArray, List.set_cons_zero, List.set_cons_succ]
        rfl
      refine pure_ (i := 2) (N := some 16) (v := ?_) (a' := ?_) #[true, true, true, false, false, false, false, false, false, false, false] rfl rfl (any_of HT_.out (by kernel_rfl)) (fun _ _ _ h => h) (Or.inl ⟨by rfl, ?_⟩) ?_ ?_
      rotate_left
      · intro w'
        go_simp
        with_reducible rfl
      rotate_left
      · simp only [Act.put, List.setIfInBounds_toArray, List.set_cons_zero, List.set_cons_succ]
        rfl
      refine pure_ (i := 3) (N := some 17) (v := ?_) (a' := ?_) #[true, true, true, true, false, false, false, false, false, false, false] rfl rfl (any_of HT_.out (by kernel_rfl)) (fun _ _ _ h => h) (Or.inl ⟨by rfl, ?_⟩) ?_ ?_
      rotate_left
      · intro w'
        go_simp
        with_reducible rfl
      rotate_left
      · simp only [Act.put, List.setIfInBounds_toArray, List.set_cons_zero, List.set_cons_succ]
        rfl
      refine take_ (i := 4) (N := some 18) (v := ?_) (a' := ?_) #[true, true, true, true, true, false, false, false, false, false, false] rfl rfl (take_ofW HT_.out HW_.out (by kernel_rfl)) (fun _ _ _ h => h) (Or.inl ⟨by rfl, ?_⟩) hHeld ?_ ?_
      rotate_left
      · intro w' s0
        obtain ⟨s1, s2, s3, s4, s5, s6⟩ := s0
        go_simp
        with_reducible rfl
      rotate_left
      · simp only [Act.put, List.setIfInBounds_toArray, List.set_cons_zero, List.set_cons_succ]
        rfl
      refine last_ (i := 5) (N := some 19) #[true, true, true, true, true, true, false, false, false, false, false] rfl rfl (one_of HT_.out (by kernel_rfl)) (by decide) (fun K_ hK => ?_)
      refine call_ (N := some 19) 39 #[.agg #[.slice VA b.1.length VC, .slice RA (ints b.2).length RC], .agg #[.int .i64 o, .int .i64 d, .int .i64 key, .int .i64 val]] (by rfl) rfl (by go_simp) ?_
      have HCall_ := lDo_any Wd (VA, b.1.length, VC) (RA, (ints b.2).length, RC) b o d key val HD.out.1.lv HD.out.1.lr HM.out.1 HI2.out.1 (by have := HLN.out; omega)
      refine HCall_.mono ?_
      clear HCall_
      rintro e W4 ⟨⟨VA', vn', VC'⟩, ⟨RA', rn', RC'⟩, kv, rfl, hV, hR, hK, hB⟩
      dsimp only [slV]
      obtain ⟨AK, cK, rfl⟩ := Kd.R_slice hK
      obtain ⟨ks, hks⟩ : ∃ ks, tellL b (o, d, key, val) = ks := ⟨_, rfl⟩
      rw [hks] at hK HT ⊢
      have H4 := hid (HD.out.1.later hB)
      have HQ4 : Hid (Blk W4 q (F4k (.slice none 0 0)) 34) := hid (HD.out.2.below hB HD.out.2.lt)
      have HVR := hid (And.intro hV hR)
      have HK : Hid (Ro W4 q (.slice AK ks.length cK) ks) := hid (Kd.R_lower hK (by have := HD.out.2.lt; omega))
      clear hV hR hK hB HD hks
      refine ⟨_, rfl, ?_⟩
      refine hK.out _ _ ?_
      clear hK K_
      refine norm_ (a' := ?_) ?_ ?_
      rotate_left
      · show Act.put _ (some 19) _ = _
        simp only [Act.put, List.setIfInBounds_toArray, List.set_cons_zero, List.set_cons_succ]
        rfl
      refine pure_ (i := 6) (N := some 13) (v := ?_) (a' := ?_) #[true, true, true, true, true, true, true, false, false, false, false] rfl rfl (any_of HT_.out (by kernel_rfl)) (fun _ _ _ h => h) (Or.inl ⟨by rfl, ?_⟩) ?_ ?_
      rotate_left
      · intro w'
        go_simp
        with_reducible rfl
      rotate_left
      · simp only [Act.put, List.setIfInBounds_toArray, List.set_cons_zero, List.set_cons_succ]
        rfl
      refine pure_ (i := 7) (N := some 20) (v := ?_) (a' := ?_) #[true, true, true, true, true, true, true, true, false, false, false] rfl rfl (any_of HT_.out (by kernel_rfl)) (fun _ _ _ h => h) (Or.inl ⟨by rfl, ?_⟩) ?_ ?_
      rotate_left
      · intro w'
        go_simp
        with_reducible rfl
      rotate_left
      · simp only [Act.put, List.setIfInBounds_toArray, List.set_cons_zero, List.set_cons_succ]
        rfl
      refine pure_ (i := 8) (N := some 21) (v := ?_) (a' := ?_) #[true, true, true, true, true, true, true, true, true, false, false] rfl rfl (any_of HT_.out (by kernel_rfl)) (fun _ _ _ h => h) (Or.inl ⟨by rfl, ?_⟩) ?_ ?_
      rotate_left
      · intro w'
        go_simp
        with_reducible rfl
      rotate_left
      · simp only [Act.put, List.setIfInBounds_toArray, List.set_cons_zero, List.set_cons_succ]
        rfl
      have c0 : W4.cell? ⟨Lb, 0, none⟩ = some (.slice VA b.1.length VC) := H4.out.line.cell 0
      have c1 : W4.cell? ⟨Lb, 1, none⟩ = some (.slice RA (ints b.2).length RC) := H4.out.line.cell 1
      have f0 : W4.frozen? ⟨Lb, 0, none⟩ = false := H4.out.line.free 0
      have f1 : W4.frozen? ⟨Lb, 1, none⟩ = false := H4.out.line.free 1
      have H5 : Hid (Lg Lb w ((W4.setCell ⟨Lb, 0, none⟩ (.slice VA' vn' VC')).setCell ⟨Lb, 1, none⟩ (.slice RA' rn' RC')) (VA', vn', VC') (RA', rn', RC') (stepL b (o, d, key, val)) (fun k => True ∧ ¬ q ≤ k) u4 rs ∧ Fr (· = Lb) W4 ((W4.setCell ⟨Lb, 0, none⟩ (.slice VA' vn' VC')).setCell ⟨Lb, 1, none⟩ (.slice RA' rn' RC'))) := hid (H4.out.turn HVR.out.1 HVR.out.2)
      have HQ5 : Hid (Blk ((W4.setCell ⟨Lb, 0, none⟩ (.slice VA' vn' VC')).setCell ⟨Lb, 1, none⟩ (.slice RA' rn' RC')) q (F4k (.slice none 0 0)) 34) := hid (HQ4.out.fr H5.out.2 (fun e => absurd (Blk.inj (by rw [← e]; exact HQ4.out) H4.out.line).2 (by decide)))
      have HK5 : Hid (Ro ((W4.setCell ⟨Lb, 0, none⟩ (.slice VA' vn' VC')).setCell ⟨Lb, 1, none⟩ (.slice RA' rn' RC')) q (.slice AK ks.length cK) ks) := hid (row_fr (d := Kd.int .i64) rfl HK.out H5.out.2 (fun g hg => by subst hg; exact ⟨_, _, H4.out.line, by decide⟩))
      refine last_ (i := 9) (N := none) #[true, true, true, true, true, true, true, true, true, true, false] rfl rfl (one_of HT_.out (by kernel_rfl)) (by decide) (fun K_ hK => ?_)
      refine skip_ (w1 := ?_) (by rfl) rfl ?_ ?_
      rotate_left
      · go_simp
        rfl
      refine hK.out _ _ ?_
      clear hK K_
      clear c0 c1 f0 f1 H4 HQ4 HK
      generalize (W4.setCell ⟨Lb, 0, none⟩ (.slice VA' vn' VC')).setCell ⟨Lb, 1, none⟩ (.slice RA' rn' RC') = W5 at H5 HQ5 HK5 ⊢
      have p0 : W5.cell? ⟨q, 0, none⟩ = some (.int .i64 0) := HQ5.out.cell 0
      have g0 : W5.frozen? ⟨q, 0, none⟩ = false := HQ5.out.free 0
      have p1 : W5.cell? ⟨q, 1, none⟩ = some (.bool false) := HQ5.out.cell 1
      have g1 : W5.frozen? ⟨q, 1, none⟩ = false := HQ5.out.free 1
      have p2 : W5.cell? ⟨q, 2, none⟩ = some (.slice none 0 0) := HQ5.out.cell 2
      have g2 : W5.frozen? ⟨q, 2, none⟩ = false := HQ5.out.free 2
      have p3 : W5.cell? ⟨q, 3, none⟩ = some (.slice none 0 0) := HQ5.out.cell 3
      have g3 : W5.frozen? ⟨q, 3, none⟩ = false := HQ5.out.free 3
      have HF6 : Hid (Fr (· = q) W5 ((((W5.setCell ⟨q, 0, none⟩ (.int .i64 0)).setCell ⟨q, 1, none⟩ (.bool false)).setCell ⟨q, 2, none⟩ (.slice AK ks.length cK)).setCell ⟨q, 3, none⟩ (.slice none 0 0))) := hid (((Fr.one.then Fr.one).then Fr.one).then Fr.one)
      have H6 := hid (H5.out.1.seen HQ5.out HGE.out HF6.out)
      have HQ6 : Hid (Blk ((((W5.setCell ⟨q, 0, none⟩ (.int .i64 0)).setCell ⟨q, 1, none⟩ (.bool false)).setCell ⟨q, 2, none⟩ (.slice AK ks.length cK)).setCell ⟨q, 3, none⟩ (.slice none 0 0)) q (F4k (.slice AK ks.length cK)) 34) := hid ((((HQ5.out.set 0 (.int .i64 0)).set 1 (.bool false)).set 2 (.slice AK ks.length cK)).set 3 (.slice none 0 0))
      have HK6 : Hid (Ro ((((W5.setCell ⟨q, 0, none⟩ (.int .i64 0)).setCell ⟨q, 1, none⟩ (.bool false)).setCell ⟨q, 2, none⟩ (.slice AK ks.length cK)).setCell ⟨q, 3, none⟩ (.slice none 0 0)) q (.slice AK ks.length cK) ks) := hid (row_fr (d := Kd.int .i64) rfl HK5.out HF6.out (fun g hg => by subst hg; exact ⟨_, _, HQ5.out, by decide⟩))
      refine last_ (i := 10) (N := none) #[true, true, true, true, true, true, true, true, true, true, true] rfl rfl (one_of HT_.out (by kernel_rfl)) (by decide) (fun K_ hK => ?_)
      refine skip_ (w1 := ?_) (by rfl) rfl ?_ ?_
      rotate_left
      · go_simp
        rfl
      refine hK.out _ _ ?_
      clear hK K_
      refine done_ (done_of HT_.out (by kernel_rfl)) ?_
      clear HT_ HW_
      clear p0 p1 p2 p3 g0 g1 g2 g3 H5 HQ5 HK5 HF6
      generalize (((W5.setCell ⟨q, 0, none⟩ (.int .i64 0)).setCell ⟨q, 1, none⟩ (.bool false)).setCell ⟨q, 2, none⟩ (.slice AK ks.length cK)).setCell ⟨q, 3, none⟩ (.slice none 0 0) = W6 at H6 HQ6 HK6 ⊢
      have p0 : W6.cell? ⟨q, 0, none⟩ = some (.int .i64 0) := HQ6.out.cell 0
      have p1 : W6.cell? ⟨q, 1, none⟩ = some (.bool false) := HQ6.out.cell 1
      have p2 : W6.cell? ⟨q, 2, none⟩ = some (.slice AK ks.length cK) := HQ6.out.cell 2
      have p3 : W6.cell? ⟨q, 3, none⟩ = some (.slice none 0 0) := HQ6.out.cell 3
      have HS2 : Hid (Sub (stepL b (o, d, key, val)) ∧ (stepL b (o, d, key, val)).1.length ≤ i + 1 ∧ (stepL b (o, d, key, val)).2.length ≤ i + 1) := by
        have h2 := HI2.out.2.1
        have h3 := step_len b (o, d, key, val)
        exact hid ⟨step_sub HI2.out.1 HM.out.1, by omega, by omega⟩
      go_wp2_with ((with_reducible refine gate_builtin (b := .append) (xs := #[.tmp 22, .tmp 24]) rfl ?_); at_builtin; refine Kd.S_append seenK (w0 := W6) (W := W6) w.heap.size rfl (.tmp 22) (.tmp 24) 24 34 (.agg #[(.int .i64 0), (.bool false), (.slice none 0 0), (.slice none 0 0)]) 64 rfl undSeens infoSeen rfl (by decide) (by omega) u4 rs (0, false, ks, []) [.int .i64 0, .bool false, .slice AK ks.length cK, .slice none 0 0] (fun _ => True) (fun k_ => q ≤ k_) rfl rfl ?aM ?aP (fun _ _ => trivial) ?aO ?aB ?aS ?aL ?_; (case aM => exact told_keys HGE.out HK6.out); (case aP => exact fun k_ hk => ⟨trivial, fun e_ => by have := HOL.out k_ e_.symm; omega⟩); (case aO => exact H6.out.out); (case aB => exact Below.refl _ _); (case aS => exact H6.out.below.size); (case aL => have h1_ := HI2.out.2.2; have h2_ := HIN.out; have h3_ := HLL.out; omega); intro v1 W7 ho _ hg hat; have H7 := hid (H6.out.put ho hg); clear ho hg hat)
      have hi1 := HIN.out
      go_roundg kg
      case measure => omega
      case rel => exact ⟨i + 1, _, _, _, _, rfl, HIN.out, by have := HG.out; show kg + (i + 1) = l.length; omega, hid ⟨H7.out, HS2.out.1, HS2.out.2, by rw [List.length_append, HI2.out.2.2]; rfl, HM.out.2, HT.out⟩⟩
    · have e : i = l.length := by omega
      subst e
      have HF : Hid (rs = told4 (toldL ([], []) l)) := by
        have h1 := HI.out.told
        rw [List.drop_length] at h1
        exact hid (by simpa [toldL, told4] using h1)
      go_wp2_with fail
      go_ret
      exact ⟨_, rfl, by rw [← HF.out]; exact HI.out.f.out, HI.out.f.below⟩
end Go.Proofs.Ytmhnhfmkcipcpaa.LineDo

namespace Go.Proofs.Ytmhnhfmkcipcpaa.LineDo
open Go Go.RowKit Go.Proofs.Ytmhnhfmkcipcpaa.Hk Go.Proofs.Ytmhnhfmkcipcpaa.Seen Go.Proofs.Ytmhnhfmkcipcpaa.Lists Go.Proofs.Ytmhnhfmkcipcpaa.LinePure Go.Proofs.Ytmhnhfmkcipcpaa.LineEv Go.Proofs.YtmhnhfmkcipcpaaW.PrintWords Go.Proofs.YtmhnhfmkcipcpaaW.PrintLast Go.Proofs.YtmhnhfmkcipcpaaW.PrintMore
def mayAllB : Line → List St → Bool
  | _, [] => true
  | b, a :: l => mayB b.1 (ints b.2) a.2.1 a.2.2.2 && mayAllB (stepL b a) l
theorem mayAll_iff : ∀ (l : List St) (b : Line), mayAllB b l = true ↔ MayAll b l
  | [], _ => ⟨fun _ => trivial, fun _ => rfl⟩
  | (o, d, key, val) :: l, b => by
    show (mayB b.1 (ints b.2) d val && mayAllB (stepL b (o, d, key, val)) l) = true ↔ May b (o, d, key, val) ∧ MayAll (stepL b (o, d, key, val)) l
    rw [Bool.and_eq_true, may_iff b o d key val, mayAll_iff l]
theorem R_iso {α β : Type} {d : Kd α} {f : β → α} {e : Nat} {w : World} {base : Nat} {ok : Nat → Prop} {v : Value} {xs : List β} (h : Kd.R d e w base ok v (xs.map f)) : Kd.R (Kd.iso d f) e w base ok v xs := by
  obtain ⟨h0, inner, ho, hr⟩ := h
  rw [List.length_map] at ho
  exact ⟨h0, inner, ho, Row.reps_map (R := fun x cs => d.M w base (fun k => ok k ∧ some k ≠ v.ownBlock) x cs) (f := f) hr⟩
/-- How long what is told is. -/
theorem told_len : ∀ (l : List St) (b : Line) (n : Nat), b.2.length + l.length ≤ n → ∀ ks ∈ toldL b l, ks.length ≤ n
  | [], _, _, _, ks, h => by simp [toldL] at h
  | a :: l, b, n, hn, ks, h => by
    have hs := (step_len b a).2
    simp only [List.length_cons] at hn
    rcases List.mem_cons.1 h with e | e
    · rw [e]
      unfold tellL vals
      split
      · rw [List.length_map]; omega
      · split
        · rw [List.length_reverse, List.length_map]; omega
        · split
          · rw [List.length_map, List.length_drop]; omega
          · split
            · rw [List.length_reverse, List.length_map, List.length_take]; omega
            · exact Nat.zero_le _
    · exact told_len l (stepL b a) n (by omega) ks e
end Go.Proofs.Ytmhnhfmkcipcpaa.LineDo

namespace Go.Proofs.Ytmhnhfmkcipcpaa.QFnListRuns
open Go.RowKit Go.Proofs.YtmhnhfmkcipcpaaW.PrintWords Go.Proofs.YtmhnhfmkcipcpaaW.PrintLast Go.Proofs.YtmhnhfmkcipcpaaW.PrintMore
attribute [local go_sem] max2_int min2_int max_two min_two max_three min_three max_four min_four   -- for this text's walks alone
set_option linter.unusedVariables false
set_option linter.unusedSimpArgs false
def errW : Option Int → Value
  | none => .nilIface
  | some c => .iface 0 (.int .i64 c)
theorem errW_none : errW none = .nilIface := rfl
theorem errW_some (c : Int) : errW (some c) = .iface 0 (.int .i64 c) := rfl
theorem info27 : (Try.prog.info? 27).map (fun i => (i.zero, i.size, i.bytes)) = some (some (.agg #[(.int .i64 0), (.int .i64 0), (.int .i64 0), (.int .i64 0)]), 4, 32) := by kernel_rfl
structure S34 where
  f0 : Int
  f1 : Bool
  f2 : (List Int)
  f3 : (List Int)
def z34 : S34 := ⟨(0 : Int), false, ([] : List Int), ([] : List Int)⟩
def k34 : Kd S34 := Kd.iso (Kd.pair (Kd.int .i64) (Kd.pair Kd.bool (Kd.pair (Kd.slice 3 (Kd.int .i64)) (Kd.slice 3 (Kd.int .i64))))) (fun x : S34 => (x.f0, x.f1, x.f2, x.f3))
theorem k34_open {w : World} {x : S34} {cs : List Value} (h : k34.K w x cs) : ∃ A2 c2 A3 c3, cs = [.int .i64 x.f0, .bool x.f1, .slice A2 x.f2.length c2, .slice A3 x.f3.length c3] ∧ x.f2.length ≤ c2 ∧ (Kd.int .i64).C w A2 x.f2.length x.f2 ∧ x.f3.length ≤ c3 ∧ (Kd.int .i64).C w A3 x.f3.length x.f3 := by
  obtain ⟨_, _, rfl, rfl, ⟨_, _, rfl, rfl, ⟨_, _, rfl, ⟨A2, c2, rfl, l2, g2⟩, ⟨A3, c3, rfl, l3, g3⟩⟩⟩⟩ := h
  exact ⟨A2, c2, A3, c3, rfl, l2, g2, l3, g3⟩
def rd_T34 (xs : List S34) (i : Int) : S34 := xs.getD i.toNat z34
theorem at_T34 {w : World} {A : Option Addr} {n : Nat} {xs : List S34} (h : Kd.C k34 w A n xs) (i : Int) (h0 : 0 ≤ i) (h1 : i < n) : ∃ ad A2 c2 A3 c3, A = some ad ∧ w.cell? (ad.add (i.toNat * 4)) = some (.int .i64 (rd_T34 xs i).f0) ∧ w.cell? ⟨(ad.add (i.toNat * 4)).block, (ad.add (i.toNat * 4)).off + 1, none⟩ = some (.bool (rd_T34 xs i).f1) ∧ w.cell? ⟨(ad.add (i.toNat * 4)).block, (ad.add (i.toNat * 4)).off + 2, none⟩ = some (.slice A2 (rd_T34 xs i).f2.length c2) ∧ w.cell? ⟨(ad.add (i.toNat * 4)).block, (ad.add (i.toNat * 4)).off + 3, none⟩ = some (.slice A3 (rd_T34 xs i).f3.length c3) ∧ (rd_T34 xs i).f2.length ≤ c2 ∧ (Kd.int .i64).C w A2 (rd_T34 xs i).f2.length (rd_T34 xs i).f2 ∧ (rd_T34 xs i).f3.length ≤ c3 ∧ (Kd.int .i64).C w A3 (rd_T34 xs i).f3.length (rd_T34 xs i).f3 := by
  obtain ⟨ad, c, e, _, hK, hc0⟩ := Kd.C_get h z34 i h0 h1
  have hc : ∀ j u, c[j]? = some u → w.cell? (ad.add (i.toNat * 4 + j)) = some u := hc0
  obtain ⟨A2, c2, A3, c3, rfl, l2, g2, l3, g3⟩ := k34_open hK
  exact ⟨ad, A2, c2, A3, c3, e, hc 0 _ rfl, by rw [← add_field _ _ 1 (by omega)]; exact hc 1 _ rfl, by rw [← add_field _ _ 2 (by omega)]; exact hc 2 _ rfl, by rw [← add_field _ _ 3 (by omega)]; exact hc 3 _ rfl, l2, g2, l3, g3⟩
structure S27 where
  f0 : Int
  f1 : Int
  f2 : Int
  f3 : Int
def k27 : Kd S27 := Kd.iso (Kd.pair (Kd.int .i64) (Kd.pair (Kd.int .i64) (Kd.pair (Kd.int .i64) (Kd.int .i64)))) (fun x : S27 => (x.f0, x.f1, x.f2, x.f3))
theorem k27_mkM (w : World) (base : Nat) (ok : Nat → Prop) (x : S27)  : k27.M w base ok x [.int .i64 x.f0, .int .i64 x.f1, .int .i64 x.f2, .int .i64 x.f3] := ⟨[.int .i64 x.f0], [.int .i64 x.f1, .int .i64 x.f2, .int .i64 x.f3], rfl, rfl, ⟨[.int .i64 x.f1], [.int .i64 x.f2, .int .i64 x.f3], rfl, rfl, ⟨[.int .i64 x.f2], [.int .i64 x.f3], rfl, rfl, rfl⟩⟩⟩
end Go.Proofs.Ytmhnhfmkcipcpaa.QFnListRuns

namespace Go.Proofs.Ytmhnhfmkcipcpaa.QFnListRuns
open Go.RowKit Go.Proofs.YtmhnhfmkcipcpaaW.PrintWords Go.Proofs.YtmhnhfmkcipcpaaW.PrintLast Go.Proofs.YtmhnhfmkcipcpaaW.PrintMore
attribute [local go_sem] max2_int min2_int max_two min_two max_three min_three max_four min_four   -- for this text's walks alone
set_option linter.unusedVariables false
set_option linter.unusedSimpArgs false
def spec_Same.l0 : Nat → List Int → List Int → Int → Option (Bool)
  | 0, _, _, _ => none
  | k + 1, x0, x1, x5 => if x5 < (x0.length : Int) then (if 0 ≤ x5 then (if x5 < (x1.length : Int) then (if (rd x0 x5) = (rd x1 x5) then (spec_Same.l0 k x0 x1 (wrap64 (x5 + 1))) else (some false)) else (none)) else (none)) else (some true)
def spec_Same.f (k : Nat) (l0 : List Int) (l1 : List Int) : Option (Bool) := if (l0.length : Int) = (l1.length : Int) then (spec_Same.l0 k l0 l1 0) else (some false)
set_option maxHeartbeats 8000000 in
set_option maxRecDepth 100000 in
theorem spec_Same.calls (k : Nat) (A0 : Option Addr) (c0 : Nat) (l0 : List Int) (A1 : Option Addr) (c1 : Nat) (l1 : List Int) (r : Bool) (w : World) (hr0 : Kd.C (Kd.int .i64) w A0 l0.length l0) (hc0 : l0.length ≤ c0) (hr1 : Kd.C (Kd.int .i64) w A1 l1.length l1) (hc1 : l1.length ≤ c1) (h : spec_Same.f k l0 l1 = some r) :
    Calls Try.prog 29 #[.slice A0 l0.length c0, .slice A1 l1.length c1] w fun e w' => e = .returned (.bool r) ∧ Drawn0 w w' := by
  have HR0 := Aside0.mk hr0
  have HC0 := Aside0.mk hc0
  clear hr0 hc0
  have HR1 := Aside0.mk hr1
  have HC1 := Aside0.mk hc1
  clear hr1 hc1
  have H : (if (l0.length : Int) = (l1.length : Int) then (spec_Same.l0 k l0 l1 0) else (some false)) = some r := h
  clear h
  by_cases c3 : (l0.length : Int) = (l1.length : Int)
  · rw [if_pos c3] at H
    have c3b0 : ((l0.length : Int) == (l1.length : Int)) = true := beq_iff_eq.mpr c3
    have c3b1 : ((l0.length : Int) != (l1.length : Int)) = false := bne_eq_false_iff_eq.mpr c3
    have c3b2 : (l0.length == l1.length) = true := by first | simpa using c3 | (simp at c3 ⊢; omega)
    clear c3
    have H' := Aside0.mk H
    clear H
    go_enter Try.func29, Try.ntmps29
    go_wp2
    repeat (go_quiet (fail); try go_wp2)
    go_loopg [5] k (fun kq v5 w' => ∃ (x5_1 : Int), v5 = .int .i64 x5_1 ∧ Aside0 (spec_Same.l0 kq l0 l1 x5_1 = some r) ∧ Aside0 (kq ≤ k) ∧ Drawn0 w w')
    case atStart => exact ⟨(0), (by first | rfl | (simp; done) | (simp [*]; done)), H', ⟨Nat.le_refl _⟩, by repeat (first | exact Drawn0.refl _ | apply Drawn0.step)⟩
    case round =>
      clear H'
      try clear c1
      try clear c2
      try clear p2
      try clear c3
      try clear c3b0
      try clear c3b1
      try clear c3b2
      obtain ⟨x5_1, rfl, HA, HK1, ⟨m1, rfl⟩⟩ := hrel
      cases gk with
      | zero => exact absurd HA.out (by simp [spec_Same.l0])
      | succ k1 =>
        have H := HA.out
        clear HA
        simp only [spec_Same.l0] at H
        by_cases c4 : x5_1 < (l0.length : Int)
        · rw [if_pos c4] at H
          have c4b0 : decide (x5_1 < (l0.length : Int)) = true := decide_eq_true c4
          clear c4
          by_cases c5 : 0 ≤ x5_1
          · rw [if_pos c5] at H
            have c5b0 : decide (0 ≤ x5_1) = true := decide_eq_true c5
            clear c5
            by_cases c6 : x5_1 < (l1.length : Int)
            · rw [if_pos c6] at H
              have c6b0 : decide (x5_1 < (l1.length : Int)) = true := decide_eq_true c6
              clear c6
              by_cases c7 : (rd l0 x5_1) = (rd l1 x5_1)
              · rw [if_pos c7] at H
                have c7b0 : ((rd l0 x5_1) == (rd l1 x5_1)) = true := beq_iff_eq.mpr c7
                have c7b1 : ((rd l0 x5_1) != (rd l1 x5_1)) = false := bne_eq_false_iff_eq.mpr c7
                clear c7
                have H' := Aside0.mk H
                clear H
                have p101 : 0 ≤ (x5_1 : Int) := of_decide_eq_true (by first | (with_reducible assumption) | assumption)
                have q101 : x5_1 < (l0.length : Int) := of_decide_eq_true (by first | (with_reducible assumption) | assumption)
                obtain ⟨ad101, e101, hx101_0⟩ := Kd.at_int HR0.out x5_1 p101 q101
                cases e101
                replace p101 := eq_true p101
                replace q101 := eq_true q101
                have p102 : 0 ≤ (x5_1 : Int) := of_decide_eq_true (by first | (with_reducible assumption) | assumption)
                have q102 : x5_1 < (l1.length : Int) := of_decide_eq_true (by first | (with_reducible assumption) | assumption)
                obtain ⟨ad102, e102, hx102_0⟩ := Kd.at_int HR1.out x5_1 p102 q102
                cases e102
                replace p102 := eq_true p102
                replace q102 := eq_true q102
                go_wp2
                repeat (go_quiet (fail); try go_wp2)
                go_roundg k1
                case measure => have := HK1.out; omega
                case rel => exact ⟨(wrap64 (x5_1 + 1)), (by first | rfl | (simp; done) | (simp [*]; done)), H', ⟨by have := HK1.out; omega⟩, by repeat (first | exact Drawn0.refl _ | apply Drawn0.step)⟩
              · rw [if_neg c7] at H
                have c7b0 : ((rd l0 x5_1) == (rd l1 x5_1)) = false := beq_eq_false_iff_ne.mpr c7
                have c7b1 : ((rd l0 x5_1) != (rd l1 x5_1)) = true := bne_iff_ne.mpr c7
                obtain rfl := Option.some.inj H
                have p101 : 0 ≤ (x5_1 : Int) := of_decide_eq_true (by first | (with_reducible assumption) | assumption)
                have q101 : x5_1 < (l0.length : Int) := of_decide_eq_true (by first | (with_reducible assumption) | assumption)
                obtain ⟨ad101, e101, hx101_0⟩ := Kd.at_int HR0.out x5_1 p101 q101
                cases e101
                replace p101 := eq_true p101
                replace q101 := eq_true q101
                have p102 : 0 ≤ (x5_1 : Int) := of_decide_eq_true (by first | (with_reducible assumption) | assumption)
                have q102 : x5_1 < (l1.length : Int) := of_decide_eq_true (by first | (with_reducible assumption) | assumption)
                obtain ⟨ad102, e102, hx102_0⟩ := Kd.at_int HR1.out x5_1 p102 q102
                cases e102
                replace p102 := eq_true p102
                replace q102 := eq_true q102
                go_wp2
                repeat (go_quiet (fail); try go_wp2)
                go_ret
                exact ⟨by first | rfl | (simp; done) | (simp [*]; done), by repeat (first | exact Drawn0.refl _ | apply Drawn0.step)⟩
            · rw [if_neg c6] at H
              exact absurd H (by simp)
          · rw [if_neg c5] at H
            exact absurd H (by simp)
        · rw [if_neg c4] at H
          have c4b0 : decide (x5_1 < (l0.length : Int)) = false := decide_eq_false c4
          clear c4
          obtain rfl := Option.some.inj H
          go_wp2
          repeat (go_quiet (fail); try go_wp2)
          go_ret
          exact ⟨by first | rfl | (simp; done) | (simp [*]; done), by repeat (first | exact Drawn0.refl _ | apply Drawn0.step)⟩
  · rw [if_neg c3] at H
    have c3b0 : ((l0.length : Int) == (l1.length : Int)) = false := beq_eq_false_iff_ne.mpr c3
    have c3b1 : ((l0.length : Int) != (l1.length : Int)) = true := bne_iff_ne.mpr c3
    have c3b2 : (l0.length == l1.length) = false := by first | simpa using c3 | (simp at c3 ⊢; omega)
    obtain rfl := Option.some.inj H
    go_enter Try.func29, Try.ntmps29
    go_wp2
    repeat (go_quiet (fail); try go_wp2)
    go_ret
    exact ⟨by first | rfl | (simp; done) | (simp [*]; done), by repeat (first | exact Drawn0.refl _ | apply Drawn0.step)⟩
end Go.Proofs.Ytmhnhfmkcipcpaa.QFnListRuns
