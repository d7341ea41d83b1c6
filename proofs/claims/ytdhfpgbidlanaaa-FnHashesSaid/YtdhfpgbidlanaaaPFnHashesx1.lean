-- PRINTED BY print.sh 35421559b90ae4d0a3588c463048766b98c2df88dd9212a6774a882060cdf62d: not written by this session
import Derived.Test.YtdhfpgbidlanaaaPFnHashesx0
namespace Go.Proofs.Ytdhfpgbidlanaaa.PFnHashes
open Go.RowKit Go.Proofs.YtdhfpgbidlanaaaW.PrintWords Go.Proofs.YtdhfpgbidlanaaaW.PrintLast Go.Proofs.YtdhfpgbidlanaaaW.PrintMore
attribute [local go_sem] max2_int min2_int max_two min_two max_three min_three max_four min_four   -- for this text's walks alone
set_option linter.unusedVariables false
set_option linter.unusedSimpArgs false

/-! ### zgeneric_hash: function 44 -/
def zgeneric_hash.f (a0 : Int) : Option (Int) := some (Go.bits .xor .u64 (IntKind.u64.wrap ((Go.bits .xor .u64 (IntKind.u64.wrap ((Go.bits .xor .u64 a0 (a0 / 8589934592)) * 18397679294719823053)) ((IntKind.u64.wrap ((Go.bits .xor .u64 a0 (a0 / 8589934592)) * 18397679294719823053)) / 8589934592)) * 14181476777654086739)) ((IntKind.u64.wrap ((Go.bits .xor .u64 (IntKind.u64.wrap ((Go.bits .xor .u64 a0 (a0 / 8589934592)) * 18397679294719823053)) ((IntKind.u64.wrap ((Go.bits .xor .u64 a0 (a0 / 8589934592)) * 18397679294719823053)) / 8589934592)) * 14181476777654086739)) / 8589934592))
set_option maxHeartbeats 8000000 in
set_option maxRecDepth 100000 in
theorem zgeneric_hash.calls (a0 : Int) (r : Int) (w : World) (h : zgeneric_hash.f a0 = some r) :
    Calls Try.prog 44 #[.int .u64 a0] w fun e w' => e = .returned (.int .u64 r) ∧ Drawn0 w w' := by
  have H : (some (Go.bits .xor .u64 (IntKind.u64.wrap ((Go.bits .xor .u64 (IntKind.u64.wrap ((Go.bits .xor .u64 a0 (a0 / 8589934592)) * 18397679294719823053)) ((IntKind.u64.wrap ((Go.bits .xor .u64 a0 (a0 / 8589934592)) * 18397679294719823053)) / 8589934592)) * 14181476777654086739)) ((IntKind.u64.wrap ((Go.bits .xor .u64 (IntKind.u64.wrap ((Go.bits .xor .u64 a0 (a0 / 8589934592)) * 18397679294719823053)) ((IntKind.u64.wrap ((Go.bits .xor .u64 a0 (a0 / 8589934592)) * 18397679294719823053)) / 8589934592)) * 14181476777654086739)) / 8589934592))) = some r := h
  clear h
  obtain rfl := Option.some.inj H
  go_enter Try.func44, Try.ntmps44
  go_wp2
  go_ret
  exact ⟨by first | rfl | (simp; done) | (simp [*]; done), by repeat (first | exact Drawn0.refl _ | apply Drawn0.step)⟩

/-! ### zgeneric_HashUint32: function 33 -/
def zgeneric_HashUint32.f (a0 : Int) : Option (Int) := (zgeneric_hash.f (IntKind.u64.wrap (a0))).bind fun t101 => (some t101)
set_option maxHeartbeats 8000000 in
set_option maxRecDepth 100000 in
theorem zgeneric_HashUint32.calls (a0 : Int) (r : Int) (w : World) (h : zgeneric_HashUint32.f a0 = some r) :
    Calls Try.prog 33 #[.int .u32 a0] w fun e w' => e = .returned (.int .u64 r) ∧ Drawn0 w w' := by
  have H : ((zgeneric_hash.f (IntKind.u64.wrap (a0))).bind fun t101 => (some t101)) = some r := h
  clear h
  replace H := Option.bind_eq_some_iff.mp H
  obtain ⟨t101, A20, H⟩ := H
  replace H : (some t101) = some r := H
  have A2 := Aside0.mk A20
  clear A20
  obtain rfl := Option.some.inj H
  go_enter Try.func33, Try.ntmps33
  go_wp2_with (first | ((with_reducible refine gate_callee (f := 44) rfl ?_); refine goesL_ (some 5) rfl rfl Try.func44 (by kernel_rfl) rfl #[.int .u64 (IntKind.u64.wrap (a0))] rfl (by (try simp only [List.map_toArray, List.map_cons, List.map_nil]); first | done | rfl | (simp only [List.length_drop, List.length_take]; rfl)) ?_; (with_reducible refine (zgeneric_hash.calls (IntKind.u64.wrap (a0)) t101 _ A2.out).mono ?_); rintro e w' ⟨rfl, ⟨nd, rfl⟩⟩; refine ⟨_, rfl, ?_⟩))
  go_ret
  exact ⟨by first | rfl | (simp; done) | (simp [*]; done), by repeat (first | exact Drawn0.refl _ | apply Drawn0.step)⟩

/-! ### impl_HashUint32: function 21 -/
def impl_HashUint32.f (a0 : Int) : Option (Int) := (zgeneric_HashUint32.f a0).bind fun t102 => (some t102)
set_option maxHeartbeats 8000000 in
set_option maxRecDepth 100000 in
theorem impl_HashUint32.calls (a0 : Int) (r : Int) (w : World) (h : impl_HashUint32.f a0 = some r) :
    Calls Try.prog 21 #[.int .u32 a0] w fun e w' => e = .returned (.int .u64 r) ∧ Drawn0 w w' := by
  have H : ((zgeneric_HashUint32.f a0).bind fun t102 => (some t102)) = some r := h
  clear h
  replace H := Option.bind_eq_some_iff.mp H
  obtain ⟨t102, A20, H⟩ := H
  replace H : (some t102) = some r := H
  have A2 := Aside0.mk A20
  clear A20
  obtain rfl := Option.some.inj H
  go_enter Try.func21, Try.ntmps21
  go_wp2_with (first | ((with_reducible refine gate_callee (f := 33) rfl ?_); refine goesL_ (some 4) rfl rfl Try.func33 (by kernel_rfl) rfl #[.int .u32 a0] rfl (by (try simp only [List.map_toArray, List.map_cons, List.map_nil]); first | done | rfl | (simp only [List.length_drop, List.length_take]; rfl)) ?_; (with_reducible refine (zgeneric_HashUint32.calls a0 t102 _ A2.out).mono ?_); rintro e w' ⟨rfl, ⟨nd, rfl⟩⟩; refine ⟨_, rfl, ?_⟩))
  go_ret
  exact ⟨by first | rfl | (simp; done) | (simp [*]; done), by repeat (first | exact Drawn0.refl _ | apply Drawn0.step)⟩

/-! ### zgeneric_HashUint64: function 34 -/
def zgeneric_HashUint64.f (a0 : Int) : Option (Int) := (zgeneric_hash.f a0).bind fun t103 => (some t103)
set_option maxHeartbeats 8000000 in
set_option maxRecDepth 100000 in
theorem zgeneric_HashUint64.calls (a0 : Int) (r : Int) (w : World) (h : zgeneric_HashUint64.f a0 = some r) :
    Calls Try.prog 34 #[.int .u64 a0] w fun e w' => e = .returned (.int .u64 r) ∧ Drawn0 w w' := by
  have H : ((zgeneric_hash.f a0).bind fun t103 => (some t103)) = some r := h
  clear h
  replace H := Option.bind_eq_some_iff.mp H
  obtain ⟨t103, A20, H⟩ := H
  replace H : (some t103) = some r := H
  have A2 := Aside0.mk A20
  clear A20
  obtain rfl := Option.some.inj H
  go_enter Try.func34, Try.ntmps34
  go_wp2_with (first | ((with_reducible refine gate_callee (f := 44) rfl ?_); refine goesL_ (some 4) rfl rfl Try.func44 (by kernel_rfl) rfl #[.int .u64 a0] rfl (by (try simp only [List.map_toArray, List.map_cons, List.map_nil]); first | done | rfl | (simp only [List.length_drop, List.length_take]; rfl)) ?_; (with_reducible refine (zgeneric_hash.calls a0 t103 _ A2.out).mono ?_); rintro e w' ⟨rfl, ⟨nd, rfl⟩⟩; refine ⟨_, rfl, ?_⟩))
  go_ret
  exact ⟨by first | rfl | (simp; done) | (simp [*]; done), by repeat (first | exact Drawn0.refl _ | apply Drawn0.step)⟩

/-! ### impl_HashUint64: function 22 -/
def impl_HashUint64.f (a0 : Int) : Option (Int) := (zgeneric_HashUint64.f a0).bind fun t104 => (some t104)
set_option maxHeartbeats 8000000 in
set_option maxRecDepth 100000 in
theorem impl_HashUint64.calls (a0 : Int) (r : Int) (w : World) (h : impl_HashUint64.f a0 = some r) :
    Calls Try.prog 22 #[.int .u64 a0] w fun e w' => e = .returned (.int .u64 r) ∧ Drawn0 w w' := by
  have H : ((zgeneric_HashUint64.f a0).bind fun t104 => (some t104)) = some r := h
  clear h
  replace H := Option.bind_eq_some_iff.mp H
  obtain ⟨t104, A20, H⟩ := H
  replace H : (some t104) = some r := H
  have A2 := Aside0.mk A20
  clear A20
  obtain rfl := Option.some.inj H
  go_enter Try.func22, Try.ntmps22
  go_wp2_with (first | ((with_reducible refine gate_callee (f := 34) rfl ?_); refine goesL_ (some 4) rfl rfl Try.func34 (by kernel_rfl) rfl #[.int .u64 a0] rfl (by (try simp only [List.map_toArray, List.map_cons, List.map_nil]); first | done | rfl | (simp only [List.length_drop, List.length_take]; rfl)) ?_; (with_reducible refine (zgeneric_HashUint64.calls a0 t104 _ A2.out).mono ?_); rintro e w' ⟨rfl, ⟨nd, rfl⟩⟩; refine ⟨_, rfl, ?_⟩))
  go_ret
  exact ⟨by first | rfl | (simp; done) | (simp [*]; done), by repeat (first | exact Drawn0.refl _ | apply Drawn0.step)⟩

/-! ### zgeneric_HashUint8: function 35 -/
def zgeneric_HashUint8.f (a0 : Int) : Option (Int) := (zgeneric_hash.f (IntKind.u64.wrap (a0))).bind fun t105 => (some t105)
set_option maxHeartbeats 8000000 in
set_option maxRecDepth 100000 in
theorem zgeneric_HashUint8.calls (a0 : Int) (r : Int) (w : World) (h : zgeneric_HashUint8.f a0 = some r) :
    Calls Try.prog 35 #[.int .u8 a0] w fun e w' => e = .returned (.int .u64 r) ∧ Drawn0 w w' := by
  have H : ((zgeneric_hash.f (IntKind.u64.wrap (a0))).bind fun t105 => (some t105)) = some r := h
  clear h
  replace H := Option.bind_eq_some_iff.mp H
  obtain ⟨t105, A20, H⟩ := H
  replace H : (some t105) = some r := H
  have A2 := Aside0.mk A20
  clear A20
  obtain rfl := Option.some.inj H
  go_enter Try.func35, Try.ntmps35
  go_wp2_with (first | ((with_reducible refine gate_callee (f := 44) rfl ?_); refine goesL_ (some 5) rfl rfl Try.func44 (by kernel_rfl) rfl #[.int .u64 (IntKind.u64.wrap (a0))] rfl (by (try simp only [List.map_toArray, List.map_cons, List.map_nil]); first | done | rfl | (simp only [List.length_drop, List.length_take]; rfl)) ?_; (with_reducible refine (zgeneric_hash.calls (IntKind.u64.wrap (a0)) t105 _ A2.out).mono ?_); rintro e w' ⟨rfl, ⟨nd, rfl⟩⟩; refine ⟨_, rfl, ?_⟩))
  go_ret
  exact ⟨by first | rfl | (simp; done) | (simp [*]; done), by repeat (first | exact Drawn0.refl _ | apply Drawn0.step)⟩

/-! ### impl_HashUint8: function 23 -/
def impl_HashUint8.f (a0 : Int) : Option (Int) := (zgeneric_HashUint8.f a0).bind fun t106 => (some t106)
set_option maxHeartbeats 8000000 in
set_option maxRecDepth 100000 in
theorem impl_HashUint8.calls (a0 : Int) (r : Int) (w : World) (h : impl_HashUint8.f a0 = some r) :
    Calls Try.prog 23 #[.int .u8 a0] w fun e w' => e = .returned (.int .u64 r) ∧ Drawn0 w w' := by
  have H : ((zgeneric_HashUint8.f a0).bind fun t106 => (some t106)) = some r := h
  clear h
  replace H := Option.bind_eq_some_iff.mp H
  obtain ⟨t106, A20, H⟩ := H
  replace H : (some t106) = some r := H
  have A2 := Aside0.mk A20
  clear A20
  obtain rfl := Option.some.inj H
  go_enter Try.func23, Try.ntmps23
  go_wp2_with (first | ((with_reducible refine gate_callee (f := 35) rfl ?_); refine goesL_ (some 4) rfl rfl Try.func35 (by kernel_rfl) rfl #[.int .u8 a0] rfl (by (try simp only [List.map_toArray, List.map_cons, List.map_nil]); first | done | rfl | (simp only [List.length_drop, List.length_take]; rfl)) ?_; (with_reducible refine (zgeneric_HashUint8.calls a0 t106 _ A2.out).mono ?_); rintro e w' ⟨rfl, ⟨nd, rfl⟩⟩; refine ⟨_, rfl, ?_⟩))
  go_ret
  exact ⟨by first | rfl | (simp; done) | (simp [*]; done), by repeat (first | exact Drawn0.refl _ | apply Drawn0.step)⟩

/-! ### zgeneric_HashInt: function 36 -/
def zgeneric_HashInt.f (a0 : Int) : Option (Int) := (zgeneric_hash.f (IntKind.u64.wrap (a0))).bind fun t107 => (some t107)
set_option maxHeartbeats 8000000 in
set_option maxRecDepth 100000 in
theorem zgeneric_HashInt.calls (a0 : Int) (r : Int) (w : World) (h : zgeneric_HashInt.f a0 = some r) :
    Calls Try.prog 36 #[.int .i64 a0] w fun e w' => e = .returned (.int .u64 r) ∧ Drawn0 w w' := by
  have H : ((zgeneric_hash.f (IntKind.u64.wrap (a0))).bind fun t107 => (some t107)) = some r := h
  clear h
  replace H := Option.bind_eq_some_iff.mp H
  obtain ⟨t107, A20, H⟩ := H
  replace H : (some t107) = some r := H
  have A2 := Aside0.mk A20
  clear A20
  obtain rfl := Option.some.inj H
  go_enter Try.func36, Try.ntmps36
  go_wp2_with (first | ((with_reducible refine gate_callee (f := 44) rfl ?_); refine goesL_ (some 5) rfl rfl Try.func44 (by kernel_rfl) rfl #[.int .u64 (IntKind.u64.wrap (a0))] rfl (by (try simp only [List.map_toArray, List.map_cons, List.map_nil]); first | done | rfl | (simp only [List.length_drop, List.length_take]; rfl)) ?_; (with_reducible refine (zgeneric_hash.calls (IntKind.u64.wrap (a0)) t107 _ A2.out).mono ?_); rintro e w' ⟨rfl, ⟨nd, rfl⟩⟩; refine ⟨_, rfl, ?_⟩))
  go_ret
  exact ⟨by first | rfl | (simp; done) | (simp [*]; done), by repeat (first | exact Drawn0.refl _ | apply Drawn0.step)⟩

/-! ### impl_HashInt: function 24 -/
def impl_HashInt.f (a0 : Int) : Option (Int) := (zgeneric_HashInt.f a0).bind fun t108 => (some t108)
set_option maxHeartbeats 8000000 in
set_option maxRecDepth 100000 in
theorem impl_HashInt.calls (a0 : Int) (r : Int) (w : World) (h : impl_HashInt.f a0 = some r) :
    Calls Try.prog 24 #[.int .i64 a0] w fun e w' => e = .returned (.int .u64 r) ∧ Drawn0 w w' := by
  have H : ((zgeneric_HashInt.f a0).bind fun t108 => (some t108)) = some r := h
  clear h
  replace H := Option.bind_eq_some_iff.mp H
  obtain ⟨t108, A20, H⟩ := H
  replace H : (some t108) = some r := H
  have A2 := Aside0.mk A20
  clear A20
  obtain rfl := Option.some.inj H
  go_enter Try.func24, Try.ntmps24
  go_wp2_with (first | ((with_reducible refine gate_callee (f := 36) rfl ?_); refine goesL_ (some 4) rfl rfl Try.func36 (by kernel_rfl) rfl #[.int .i64 a0] rfl (by (try simp only [List.map_toArray, List.map_cons, List.map_nil]); first | done | rfl | (simp only [List.length_drop, List.length_take]; rfl)) ?_; (with_reducible refine (zgeneric_HashInt.calls a0 t108 _ A2.out).mono ?_); rintro e w' ⟨rfl, ⟨nd, rfl⟩⟩; refine ⟨_, rfl, ?_⟩))
  go_ret
  exact ⟨by first | rfl | (simp; done) | (simp [*]; done), by repeat (first | exact Drawn0.refl _ | apply Drawn0.step)⟩

/-! ### zgeneric_HashInt32: function 37 -/
def zgeneric_HashInt32.f (a0 : Int) : Option (Int) := (zgeneric_hash.f (IntKind.u64.wrap (a0))).bind fun t109 => (some t109)
set_option maxHeartbeats 8000000 in
set_option maxRecDepth 100000 in
theorem zgeneric_HashInt32.calls (a0 : Int) (r : Int) (w : World) (h : zgeneric_HashInt32.f a0 = some r) :
    Calls Try.prog 37 #[.int .i32 a0] w fun e w' => e = .returned (.int .u64 r) ∧ Drawn0 w w' := by
  have H : ((zgeneric_hash.f (IntKind.u64.wrap (a0))).bind fun t109 => (some t109)) = some r := h
  clear h
  replace H := Option.bind_eq_some_iff.mp H
  obtain ⟨t109, A20, H⟩ := H
  replace H : (some t109) = some r := H
  have A2 := Aside0.mk A20
  clear A20
  obtain rfl := Option.some.inj H
  go_enter Try.func37, Try.ntmps37
  go_wp2_with (first | ((with_reducible refine gate_callee (f := 44) rfl ?_); refine goesL_ (some 5) rfl rfl Try.func44 (by kernel_rfl) rfl #[.int .u64 (IntKind.u64.wrap (a0))] rfl (by (try simp only [List.map_toArray, List.map_cons, List.map_nil]); first | done | rfl | (simp only [List.length_drop, List.length_take]; rfl)) ?_; (with_reducible refine (zgeneric_hash.calls (IntKind.u64.wrap (a0)) t109 _ A2.out).mono ?_); rintro e w' ⟨rfl, ⟨nd, rfl⟩⟩; refine ⟨_, rfl, ?_⟩))
  go_ret
  exact ⟨by first | rfl | (simp; done) | (simp [*]; done), by repeat (first | exact Drawn0.refl _ | apply Drawn0.step)⟩

/-! ### impl_HashInt32: function 25 -/
def impl_HashInt32.f (a0 : Int) : Option (Int) := (zgeneric_HashInt32.f a0).bind fun t110 => (some t110)
set_option maxHeartbeats 8000000 in
set_option maxRecDepth 100000 in
theorem impl_HashInt32.calls (a0 : Int) (r : Int) (w : World) (h : impl_HashInt32.f a0 = some r) :
    Calls Try.prog 25 #[.int .i32 a0] w fun e w' => e = .returned (.int .u64 r) ∧ Drawn0 w w' := by
  have H : ((zgeneric_HashInt32.f a0).bind fun t110 => (some t110)) = some r := h
  clear h
  replace H := Option.bind_eq_some_iff.mp H
  obtain ⟨t110, A20, H⟩ := H
  replace H : (some t110) = some r := H
  have A2 := Aside0.mk A20
  clear A20
  obtain rfl := Option.some.inj H
  go_enter Try.func25, Try.ntmps25
  go_wp2_with (first | ((with_reducible refine gate_callee (f := 37) rfl ?_); refine goesL_ (some 4) rfl rfl Try.func37 (by kernel_rfl) rfl #[.int .i32 a0] rfl (by (try simp only [List.map_toArray, List.map_cons, List.map_nil]); first | done | rfl | (simp only [List.length_drop, List.length_take]; rfl)) ?_; (with_reducible refine (zgeneric_HashInt32.calls a0 t110 _ A2.out).mono ?_); rintro e w' ⟨rfl, ⟨nd, rfl⟩⟩; refine ⟨_, rfl, ?_⟩))
  go_ret
  exact ⟨by first | rfl | (simp; done) | (simp [*]; done), by repeat (first | exact Drawn0.refl _ | apply Drawn0.step)⟩

/-! ### zgeneric_HashInt8: function 38 -/
def zgeneric_HashInt8.f (a0 : Int) : Option (Int) := (zgeneric_hash.f (IntKind.u64.wrap (a0))).bind fun t111 => (some t111)
set_option maxHeartbeats 8000000 in
set_option maxRecDepth 100000 in
theorem zgeneric_HashInt8.calls (a0 : Int) (r : Int) (w : World) (h : zgeneric_HashInt8.f a0 = some r) :
    Calls Try.prog 38 #[.int .i8 a0] w fun e w' => e = .returned (.int .u64 r) ∧ Drawn0 w w' := by
  have H : ((zgeneric_hash.f (IntKind.u64.wrap (a0))).bind fun t111 => (some t111)) = some r := h
  clear h
  replace H := Option.bind_eq_some_iff.mp H
  obtain ⟨t111, A20, H⟩ := H
  replace H : (some t111) = some r := H
  have A2 := Aside0.mk A20
  clear A20
  obtain rfl := Option.some.inj H
  go_enter Try.func38, Try.ntmps38
  go_wp2_with (first | ((with_reducible refine gate_callee (f := 44) rfl ?_); refine goesL_ (some 5) rfl rfl Try.func44 (by kernel_rfl) rfl #[.int .u64 (IntKind.u64.wrap (a0))] rfl (by (try simp only [List.map_toArray, List.map_cons, List.map_nil]); first | done | rfl | (simp only [List.length_drop, List.length_take]; rfl)) ?_; (with_reducible refine (zgeneric_hash.calls (IntKind.u64.wrap (a0)) t111 _ A2.out).mono ?_); rintro e w' ⟨rfl, ⟨nd, rfl⟩⟩; refine ⟨_, rfl, ?_⟩))
  go_ret
  exact ⟨by first | rfl | (simp; done) | (simp [*]; done), by repeat (first | exact Drawn0.refl _ | apply Drawn0.step)⟩

/-! ### impl_HashInt8: function 26 -/
def impl_HashInt8.f (a0 : Int) : Option (Int) := (zgeneric_HashInt8.f a0).bind fun t112 => (some t112)
set_option maxHeartbeats 8000000 in
set_option maxRecDepth 100000 in
theorem impl_HashInt8.calls (a0 : Int) (r : Int) (w : World) (h : impl_HashInt8.f a0 = some r) :
    Calls Try.prog 26 #[.int .i8 a0] w fun e w' => e = .returned (.int .u64 r) ∧ Drawn0 w w' := by
  have H : ((zgeneric_HashInt8.f a0).bind fun t112 => (some t112)) = some r := h
  clear h
  replace H := Option.bind_eq_some_iff.mp H
  obtain ⟨t112, A20, H⟩ := H
  replace H : (some t112) = some r := H
  have A2 := Aside0.mk A20
  clear A20
  obtain rfl := Option.some.inj H
  go_enter Try.func26, Try.ntmps26
  go_wp2_with (first | ((with_reducible refine gate_callee (f := 38) rfl ?_); refine goesL_ (some 4) rfl rfl Try.func38 (by kernel_rfl) rfl #[.int .i8 a0] rfl (by (try simp only [List.map_toArray, List.map_cons, List.map_nil]); first | done | rfl | (simp only [List.length_drop, List.length_take]; rfl)) ?_; (with_reducible refine (zgeneric_HashInt8.calls a0 t112 _ A2.out).mono ?_); rintro e w' ⟨rfl, ⟨nd, rfl⟩⟩; refine ⟨_, rfl, ?_⟩))
  go_ret
  exact ⟨by first | rfl | (simp; done) | (simp [*]; done), by repeat (first | exact Drawn0.refl _ | apply Drawn0.step)⟩

/-! ### laws_FnHashes: function 8 -/
def laws_FnHashes.j0 : Nat → Int → Bool → Option (Bool)
  | 0, _, _ => none
  | k + 1, x0, x20 => if x20 = true then (some false) else ((impl_HashInt.f (wrap64 (x0))).bind fun t117 => ((impl_HashUint64.f x0).bind fun t118 => (if t117 = t118 then ((impl_HashInt32.f (wrap32 (x0))).bind fun t119 => ((impl_HashUint64.f (IntKind.u64.wrap (wrap64 (wrap32 (x0))))).bind fun t120 => (if t119 = t120 then ((impl_HashInt8.f (IntKind.i8.wrap (x0))).bind fun t121 => ((impl_HashUint64.f (IntKind.u64.wrap (wrap64 (IntKind.i8.wrap (x0))))).bind fun t122 => (if t121 = t122 then ((impl_HashUint64.f 1).bind fun t123 => ((impl_HashUint64.f 2).bind fun t124 => (some (t123 != t124)))) else (some false)))) else (some false)))) else (some false))))
def laws_FnHashes.f (k : Nat) (a0 : Int) : Option (Bool) := (impl_HashUint32.f ((a0) % 4294967296)).bind fun t113 => ((impl_HashUint64.f ((a0) % 4294967296)).bind fun t114 => (if t113 = t114 then ((impl_HashUint8.f ((a0) % 256)).bind fun t115 => ((impl_HashUint64.f ((a0) % 256)).bind fun t116 => (laws_FnHashes.j0 k a0 (t115 != t116)))) else (laws_FnHashes.j0 k a0 true)))
theorem laws_FnHashes.mono_l : ∀ k, (∀ y0 y1, LeO (laws_FnHashes.j0 k y0 y1) (laws_FnHashes.j0 (k + 1) y0 y1))
  | 0 => fun _ _ r h => by simp [laws_FnHashes.j0] at h
  | k + 1 => by
    have ih0 := laws_FnHashes.mono_l k
    · intro y0 y1
      unfold laws_FnHashes.j0
      repeat' first
      | (with_reducible exact ih0 _ _)
      | (with_reducible exact LeO.refl _)
      | (with_reducible exact LeO.none _)
      | (with_reducible refine LeO.ite ?_ ?_)
      | (with_reducible refine LeO.bind ?_ (fun _ => ?_))
      | exact ih0 _ _
      | exact LeO.none _
      | refine LeO.ite ?_ ?_
      | refine LeO.bind ?_ (fun _ => ?_)
theorem laws_FnHashes.mono : ∀ a0 k, LeO (laws_FnHashes.f k a0) (laws_FnHashes.f (k + 1) a0) := by
  intro a0 k
  have ih0 := laws_FnHashes.mono_l k
  unfold laws_FnHashes.f
  repeat' first
      | (with_reducible exact ih0 _ _)
      | (with_reducible exact LeO.refl _)
      | (with_reducible exact LeO.none _)
      | (with_reducible refine LeO.ite ?_ ?_)
      | (with_reducible refine LeO.bind ?_ (fun _ => ?_))
      | exact ih0 _ _
      | exact LeO.none _
      | refine LeO.ite ?_ ?_
      | refine LeO.bind ?_ (fun _ => ?_)
set_option maxHeartbeats 8000000 in
set_option maxRecDepth 100000 in
theorem laws_FnHashes.calls (k : Nat) (a0 : Int) (r : Bool) (w : World) (h : laws_FnHashes.f k a0 = some r) :
    Calls Try.prog 8 #[.int .u64 a0] w fun e w' => e = .returned (.bool r) ∧ Drawn0 w w' := by
  have H : ((impl_HashUint32.f ((a0) % 4294967296)).bind fun t113 => ((impl_HashUint64.f ((a0) % 4294967296)).bind fun t114 => (if t113 = t114 then ((impl_HashUint8.f ((a0) % 256)).bind fun t115 => ((impl_HashUint64.f ((a0) % 256)).bind fun t116 => (laws_FnHashes.j0 k a0 (t115 != t116)))) else (laws_FnHashes.j0 k a0 true)))) = some r := h
  clear h
  have HC2 := Aside0.mk H
  clear H
  go_enter Try.func8, Try.ntmps8
  go_upto_region 1 with (fail)
  go_cut [20] (fun v20 wc => ∃ (kq : Nat) (x20_1 : Bool), v20 = .bool x20_1 ∧ Aside0 (laws_FnHashes.j0 kq a0 x20_1 = some r) ∧ Aside0 (kq ≤ k) ∧ Drawn0 w wc)
  case first =>
    have H := HC2.out
    clear HC2
    replace H := Option.bind_eq_some_iff.mp H
    obtain ⟨t113, A30, H⟩ := H
    replace H : ((impl_HashUint64.f ((a0) % 4294967296)).bind fun t114 => (if t113 = t114 then ((impl_HashUint8.f ((a0) % 256)).bind fun t115 => ((impl_HashUint64.f ((a0) % 256)).bind fun t116 => (laws_FnHashes.j0 k a0 (t115 != t116)))) else (laws_FnHashes.j0 k a0 true))) = some r := H
    have A3 := Aside0.mk A30
    clear A30
    replace H := Option.bind_eq_some_iff.mp H
    obtain ⟨t114, A40, H⟩ := H
    replace H : (if t113 = t114 then ((impl_HashUint8.f ((a0) % 256)).bind fun t115 => ((impl_HashUint64.f ((a0) % 256)).bind fun t116 => (laws_FnHashes.j0 k a0 (t115 != t116)))) else (laws_FnHashes.j0 k a0 true)) = some r := H
    have A4 := Aside0.mk A40
    clear A40
    by_cases c5 : t113 = t114
    · rw [if_pos c5] at H
      have c5b0 : (t113 == t114) = true := beq_iff_eq.mpr c5
      have c5b1 : (t113 != t114) = false := bne_eq_false_iff_eq.mpr c5
      clear c5
      (first | rw [c5b0] | (simp only [i64_w, i32_w]; rw [c5b0]) | skip)
      replace H := Option.bind_eq_some_iff.mp H
      obtain ⟨t115, A60, H⟩ := H
      replace H : ((impl_HashUint64.f ((a0) % 256)).bind fun t116 => (laws_FnHashes.j0 k a0 (t115 != t116))) = some r := H
      have A6 := Aside0.mk A60
      clear A60
      replace H := Option.bind_eq_some_iff.mp H
      obtain ⟨t116, A70, H⟩ := H
      replace H : (laws_FnHashes.j0 k a0 (t115 != t116)) = some r := H
      have A7 := Aside0.mk A70
      clear A70
      have H' := Aside0.mk H
      clear H
      go_wp2_with (first | ((with_reducible refine gate_callee (f := 21) rfl ?_); refine goesL_ (some 5) rfl rfl Try.func21 (by kernel_rfl) rfl #[.int .u32 ((a0) % 4294967296)] rfl (by (try simp only [List.map_toArray, List.map_cons, List.map_nil]); first | done | rfl | (simp only [List.length_drop, List.length_take]; rfl)) ?_; (with_reducible refine (impl_HashUint32.calls ((a0) % 4294967296) t113 _ A3.out).mono ?_); rintro e w' ⟨rfl, ⟨nd, rfl⟩⟩; refine ⟨_, rfl, ?_⟩) | ((with_reducible refine gate_callee (f := 22) rfl ?_); refine goesL_ (some 9) rfl rfl Try.func22 (by kernel_rfl) rfl #[.int .u64 ((a0) % 4294967296)] rfl (by (try simp only [List.map_toArray, List.map_cons, List.map_nil]); first | done | rfl | (simp only [List.length_drop, List.length_take]; rfl)) ?_; (with_reducible refine (impl_HashUint64.calls ((a0) % 4294967296) t114 _ A4.out).mono ?_); rintro e w' ⟨rfl, ⟨nd, rfl⟩⟩; refine ⟨_, rfl, ?_⟩) | (go_at_call 23; (with_reducible refine (impl_HashUint8.calls ((a0) % 256) t115 _ A6.out).mono ?_); rintro e w' ⟨rfl, ⟨nd, rfl⟩⟩) | (go_at_call 22; (with_reducible refine (impl_HashUint64.calls ((a0) % 256) t116 _ A7.out).mono ?_); rintro e w' ⟨rfl, ⟨nd, rfl⟩⟩))
      go_meet
      case rel => exact ⟨_, ((t115 != t116)), (by first | rfl | (simp; done) | (simp [*]; done)), H', ⟨by first | omega | exact Nat.le_refl _⟩, by repeat (first | exact Drawn0.refl _ | apply Drawn0.step)⟩
    · rw [if_neg c5] at H
      have c5b0 : (t113 == t114) = false := beq_eq_false_iff_ne.mpr c5
      have c5b1 : (t113 != t114) = true := bne_iff_ne.mpr c5
      (first | rw [c5b0] | (simp only [i64_w, i32_w]; rw [c5b0]) | skip)
      have H' := Aside0.mk H
      clear H
      go_wp2_with (first | ((with_reducible refine gate_callee (f := 21) rfl ?_); refine goesL_ (some 5) rfl rfl Try.func21 (by kernel_rfl) rfl #[.int .u32 ((a0) % 4294967296)] rfl (by (try simp only [List.map_toArray, List.map_cons, List.map_nil]); first | done | rfl | (simp only [List.length_drop, List.length_take]; rfl)) ?_; (with_reducible refine (impl_HashUint32.calls ((a0) % 4294967296) t113 _ A3.out).mono ?_); rintro e w' ⟨rfl, ⟨nd, rfl⟩⟩; refine ⟨_, rfl, ?_⟩) | ((with_reducible refine gate_callee (f := 22) rfl ?_); refine goesL_ (some 9) rfl rfl Try.func22 (by kernel_rfl) rfl #[.int .u64 ((a0) % 4294967296)] rfl (by (try simp only [List.map_toArray, List.map_cons, List.map_nil]); first | done | rfl | (simp only [List.length_drop, List.length_take]; rfl)) ?_; (with_reducible refine (impl_HashUint64.calls ((a0) % 4294967296) t114 _ A4.out).mono ?_); rintro e w' ⟨rfl, ⟨nd, rfl⟩⟩; refine ⟨_, rfl, ?_⟩))
      go_meet
      case rel => exact ⟨_, (true), (by first | rfl | (simp; done) | (simp [*]; done)), H', ⟨by first | omega | exact Nat.le_refl _⟩, by repeat (first | exact Drawn0.refl _ | apply Drawn0.step)⟩
  case rest =>
    clear HC2
    try clear c2
    try clear p2
    try clear c5
    try clear c5b0
    try clear c5b1
    obtain ⟨kq, x20_1, rfl, HA, HJ1, ⟨mc1, rfl⟩⟩ := hcut
    cases kq with
    | zero => exact absurd HA.out (by simp [laws_FnHashes.j0])
    | succ kj1 =>
      have H := HA.out
      clear HA
      simp only [laws_FnHashes.j0] at H
      by_cases c8 : x20_1 = true
      · subst c8
        have H1 : (some false) = some r := by rw [if_pos rfl] at H; exact H
        clear H
        have H := H1
        clear H1
        obtain rfl := Option.some.inj H
        go_wp2
        go_ret
        exact ⟨by first | rfl | (simp; done) | (simp [*]; done), by repeat (first | exact Drawn0.refl _ | apply Drawn0.step)⟩
      · replace c8 := Bool.eq_false_iff.mpr c8
        subst c8
        have H1 : ((impl_HashInt.f (wrap64 (a0))).bind fun t117 => ((impl_HashUint64.f a0).bind fun t118 => (if t117 = t118 then ((impl_HashInt32.f (wrap32 (a0))).bind fun t119 => ((impl_HashUint64.f (IntKind.u64.wrap (wrap64 (wrap32 (a0))))).bind fun t120 => (if t119 = t120 then ((impl_HashInt8.f (IntKind.i8.wrap (a0))).bind fun t121 => ((impl_HashUint64.f (IntKind.u64.wrap (wrap64 (IntKind.i8.wrap (a0))))).bind fun t122 => (if t121 = t122 then ((impl_HashUint64.f 1).bind fun t123 => ((impl_HashUint64.f 2).bind fun t124 => (some (t123 != t124)))) else (some false)))) else (some false)))) else (some false)))) = some r := by rw [if_neg (show ¬ (false = true) by decide)] at H; exact H
        clear H
        have H := H1
        clear H1
        replace H := Option.bind_eq_some_iff.mp H
        obtain ⟨t117, A90, H⟩ := H
        replace H : ((impl_HashUint64.f a0).bind fun t118 => (if t117 = t118 then ((impl_HashInt32.f (wrap32 (a0))).bind fun t119 => ((impl_HashUint64.f (IntKind.u64.wrap (wrap64 (wrap32 (a0))))).bind fun t120 => (if t119 = t120 then ((impl_HashInt8.f (IntKind.i8.wrap (a0))).bind fun t121 => ((impl_HashUint64.f (IntKind.u64.wrap (wrap64 (IntKind.i8.wrap (a0))))).bind fun t122 => (if t121 = t122 then ((impl_HashUint64.f 1).bind fun t123 => ((impl_HashUint64.f 2).bind fun t124 => (some (t123 != t124)))) else (some false)))) else (some false)))) else (some false))) = some r := H
        have A9 := Aside0.mk A90
        clear A90
        replace H := Option.bind_eq_some_iff.mp H
        obtain ⟨t118, A100, H⟩ := H
        replace H : (if t117 = t118 then ((impl_HashInt32.f (wrap32 (a0))).bind fun t119 => ((impl_HashUint64.f (IntKind.u64.wrap (wrap64 (wrap32 (a0))))).bind fun t120 => (if t119 = t120 then ((impl_HashInt8.f (IntKind.i8.wrap (a0))).bind fun t121 => ((impl_HashUint64.f (IntKind.u64.wrap (wrap64 (IntKind.i8.wrap (a0))))).bind fun t122 => (if t121 = t122 then ((impl_HashUint64.f 1).bind fun t123 => ((impl_HashUint64.f 2).bind fun t124 => (some (t123 != t124)))) else (some false)))) else (some false)))) else (some false)) = some r := H
        have A10 := Aside0.mk A100
        clear A100
        by_cases c11 : t117 = t118
        · rw [if_pos c11] at H
          have c11b0 : (t117 == t118) = true := beq_iff_eq.mpr c11
          have c11b1 : (t117 != t118) = false := bne_eq_false_iff_eq.mpr c11
          clear c11
          replace H := Option.bind_eq_some_iff.mp H
          obtain ⟨t119, A120, H⟩ := H
          replace H : ((impl_HashUint64.f (IntKind.u64.wrap (wrap64 (wrap32 (a0))))).bind fun t120 => (if t119 = t120 then ((impl_HashInt8.f (IntKind.i8.wrap (a0))).bind fun t121 => ((impl_HashUint64.f (IntKind.u64.wrap (wrap64 (IntKind.i8.wrap (a0))))).bind fun t122 => (if t121 = t122 then ((impl_HashUint64.f 1).bind fun t123 => ((impl_HashUint64.f 2).bind fun t124 => (some (t123 != t124)))) else (some false)))) else (some false))) = some r := H
          have A12 := Aside0.mk A120
          clear A120
          replace H := Option.bind_eq_some_iff.mp H
          obtain ⟨t120, A130, H⟩ := H
          replace H : (if t119 = t120 then ((impl_HashInt8.f (IntKind.i8.wrap (a0))).bind fun t121 => ((impl_HashUint64.f (IntKind.u64.wrap (wrap64 (IntKind.i8.wrap (a0))))).bind fun t122 => (if t121 = t122 then ((impl_HashUint64.f 1).bind fun t123 => ((impl_HashUint64.f 2).bind fun t124 => (some (t123 != t124)))) else (some false)))) else (some false)) = some r := H
          have A13 := Aside0.mk A130
          clear A130
          by_cases c14 : t119 = t120
          · rw [if_pos c14] at H
            have c14b0 : (t119 == t120) = true := beq_iff_eq.mpr c14
            have c14b1 : (t119 != t120) = false := bne_eq_false_iff_eq.mpr c14
            clear c14
            replace H := Option.bind_eq_some_iff.mp H
            obtain ⟨t121, A150, H⟩ := H
            replace H : ((impl_HashUint64.f (IntKind.u64.wrap (wrap64 (IntKind.i8.wrap (a0))))).bind fun t122 => (if t121 = t122 then ((impl_HashUint64.f 1).bind fun t123 => ((impl_HashUint64.f 2).bind fun t124 => (some (t123 != t124)))) else (some false))) = some r := H
            have A15 := Aside0.mk A150
            clear A150
            replace H := Option.bind_eq_some_iff.mp H
            obtain ⟨t122, A160, H⟩ := H
            replace H : (if t121 = t122 then ((impl_HashUint64.f 1).bind fun t123 => ((impl_HashUint64.f 2).bind fun t124 => (some (t123 != t124)))) else (some false)) = some r := H
            have A16 := Aside0.mk A160
            clear A160
            by_cases c17 : t121 = t122
            · rw [if_pos c17] at H
              have c17b0 : (t121 == t122) = true := beq_iff_eq.mpr c17
              have c17b1 : (t121 != t122) = false := bne_eq_false_iff_eq.mpr c17
              clear c17
              replace H := Option.bind_eq_some_iff.mp H
              obtain ⟨t123, A180, H⟩ := H
              replace H : ((impl_HashUint64.f 2).bind fun t124 => (some (t123 != t124))) = some r := H
              have A18 := Aside0.mk A180
              clear A180
              replace H := Option.bind_eq_some_iff.mp H
              obtain ⟨t124, A190, H⟩ := H
              replace H : (some (t123 != t124)) = some r := H
              have A19 := Aside0.mk A190
              clear A190
              obtain rfl := Option.some.inj H
              go_wp2_with (first | ((with_reducible refine gate_callee (f := 24) rfl ?_); refine goesL_ (some 23) rfl rfl Try.func24 (by kernel_rfl) rfl #[.int .i64 (wrap64 (a0))] rfl (by (try simp only [List.map_toArray, List.map_cons, List.map_nil]); first | done | rfl | (simp only [List.length_drop, List.length_take]; rfl)) ?_; (with_reducible refine (impl_HashInt.calls (wrap64 (a0)) t117 _ A9.out).mono ?_); rintro e w' ⟨rfl, ⟨nd, rfl⟩⟩; refine ⟨_, rfl, ?_⟩) | ((with_reducible refine gate_callee (f := 22) rfl ?_); refine goesL_ (some 25) rfl rfl Try.func22 (by kernel_rfl) rfl #[.int .u64 a0] rfl (by (try simp only [List.map_toArray, List.map_cons, List.map_nil]); first | done | rfl | (simp only [List.length_drop, List.length_take]; rfl)) ?_; (with_reducible refine (impl_HashUint64.calls a0 t118 _ A10.out).mono ?_); rintro e w' ⟨rfl, ⟨nd, rfl⟩⟩; refine ⟨_, rfl, ?_⟩) | (go_at_call 25; (with_reducible refine (impl_HashInt32.calls (wrap32 (a0)) t119 _ A12.out).mono ?_); rintro e w' ⟨rfl, ⟨nd, rfl⟩⟩) | (go_at_call 22; (with_reducible refine (impl_HashUint64.calls (IntKind.u64.wrap (wrap64 (wrap32 (a0)))) t120 _ A13.out).mono ?_); rintro e w' ⟨rfl, ⟨nd, rfl⟩⟩) | (go_at_call 26; (with_reducible refine (impl_HashInt8.calls (IntKind.i8.wrap (a0)) t121 _ A15.out).mono ?_); rintro e w' ⟨rfl, ⟨nd, rfl⟩⟩) | (go_at_call 22; (with_reducible refine (impl_HashUint64.calls (IntKind.u64.wrap (wrap64 (IntKind.i8.wrap (a0)))) t122 _ A16.out).mono ?_); rintro e w' ⟨rfl, ⟨nd, rfl⟩⟩) | (go_at_call 22; (with_reducible refine (impl_HashUint64.calls 1 t123 _ A18.out).mono ?_); rintro e w' ⟨rfl, ⟨nd, rfl⟩⟩) | (go_at_call 22; (with_reducible refine (impl_HashUint64.calls 2 t124 _ A19.out).mono ?_); rintro e w' ⟨rfl, ⟨nd, rfl⟩⟩))
              go_ret
              exact ⟨by first | rfl | (simp; done) | (simp [*]; done), by repeat (first | exact Drawn0.refl _ | apply Drawn0.step)⟩
            · rw [if_neg c17] at H
              have c17b0 : (t121 == t122) = false := beq_eq_false_iff_ne.mpr c17
              have c17b1 : (t121 != t122) = true := bne_iff_ne.mpr c17
              obtain rfl := Option.some.inj H
              go_wp2_with (first | ((with_reducible refine gate_callee (f := 24) rfl ?_); refine goesL_ (some 23) rfl rfl Try.func24 (by kernel_rfl) rfl #[.int .i64 (wrap64 (a0))] rfl (by (try simp only [List.map_toArray, List.map_cons, List.map_nil]); first | done | rfl | (simp only [List.length_drop, List.length_take]; rfl)) ?_; (with_reducible refine (impl_HashInt.calls (wrap64 (a0)) t117 _ A9.out).mono ?_); rintro e w' ⟨rfl, ⟨nd, rfl⟩⟩; refine ⟨_, rfl, ?_⟩) | ((with_reducible refine gate_callee (f := 22) rfl ?_); refine goesL_ (some 25) rfl rfl Try.func22 (by kernel_rfl) rfl #[.int .u64 a0] rfl (by (try simp only [List.map_toArray, List.map_cons, List.map_nil]); first | done | rfl | (simp only [List.length_drop, List.length_take]; rfl)) ?_; (with_reducible refine (impl_HashUint64.calls a0 t118 _ A10.out).mono ?_); rintro e w' ⟨rfl, ⟨nd, rfl⟩⟩; refine ⟨_, rfl, ?_⟩) | (go_at_call 25; (with_reducible refine (impl_HashInt32.calls (wrap32 (a0)) t119 _ A12.out).mono ?_); rintro e w' ⟨rfl, ⟨nd, rfl⟩⟩) | (go_at_call 22; (with_reducible refine (impl_HashUint64.calls (IntKind.u64.wrap (wrap64 (wrap32 (a0)))) t120 _ A13.out).mono ?_); rintro e w' ⟨rfl, ⟨nd, rfl⟩⟩) | (go_at_call 26; (with_reducible refine (impl_HashInt8.calls (IntKind.i8.wrap (a0)) t121 _ A15.out).mono ?_); rintro e w' ⟨rfl, ⟨nd, rfl⟩⟩) | (go_at_call 22; (with_reducible refine (impl_HashUint64.calls (IntKind.u64.wrap (wrap64 (IntKind.i8.wrap (a0)))) t122 _ A16.out).mono ?_); rintro e w' ⟨rfl, ⟨nd, rfl⟩⟩))
              go_ret
              exact ⟨by first | rfl | (simp; done) | (simp [*]; done), by repeat (first | exact Drawn0.refl _ | apply Drawn0.step)⟩
          · rw [if_neg c14] at H
            have c14b0 : (t119 == t120) = false := beq_eq_false_iff_ne.mpr c14
            have c14b1 : (t119 != t120) = true := bne_iff_ne.mpr c14
            obtain rfl := Option.some.inj H
            go_wp2_with (first | ((with_reducible refine gate_callee (f := 24) rfl ?_); refine goesL_ (some 23) rfl rfl Try.func24 (by kernel_rfl) rfl #[.int .i64 (wrap64 (a0))] rfl (by (try simp only [List.map_toArray, List.map_cons, List.map_nil]); first | done | rfl | (simp only [List.length_drop, List.length_take]; rfl)) ?_; (with_reducible refine (impl_HashInt.calls (wrap64 (a0)) t117 _ A9.out).mono ?_); rintro e w' ⟨rfl, ⟨nd, rfl⟩⟩; refine ⟨_, rfl, ?_⟩) | ((with_reducible refine gate_callee (f := 22) rfl ?_); refine goesL_ (some 25) rfl rfl Try.func22 (by kernel_rfl) rfl #[.int .u64 a0] rfl (by (try simp only [List.map_toArray, List.map_cons, List.map_nil]); first | done | rfl | (simp only [List.length_drop, List.length_take]; rfl)) ?_; (with_reducible refine (impl_HashUint64.calls a0 t118 _ A10.out).mono ?_); rintro e w' ⟨rfl, ⟨nd, rfl⟩⟩; refine ⟨_, rfl, ?_⟩) | (go_at_call 25; (with_reducible refine (impl_HashInt32.calls (wrap32 (a0)) t119 _ A12.out).mono ?_); rintro e w' ⟨rfl, ⟨nd, rfl⟩⟩) | (go_at_call 22; (with_reducible refine (impl_HashUint64.calls (IntKind.u64.wrap (wrap64 (wrap32 (a0)))) t120 _ A13.out).mono ?_); rintro e w' ⟨rfl, ⟨nd, rfl⟩⟩))
            go_ret
            exact ⟨by first | rfl | (simp; done) | (simp [*]; done), by repeat (first | exact Drawn0.refl _ | apply Drawn0.step)⟩
        · rw [if_neg c11] at H
          have c11b0 : (t117 == t118) = false := beq_eq_false_iff_ne.mpr c11
          have c11b1 : (t117 != t118) = true := bne_iff_ne.mpr c11
          obtain rfl := Option.some.inj H
          go_wp2_with (first | ((with_reducible refine gate_callee (f := 24) rfl ?_); refine goesL_ (some 23) rfl rfl Try.func24 (by kernel_rfl) rfl #[.int .i64 (wrap64 (a0))] rfl (by (try simp only [List.map_toArray, List.map_cons, List.map_nil]); first | done | rfl | (simp only [List.length_drop, List.length_take]; rfl)) ?_; (with_reducible refine (impl_HashInt.calls (wrap64 (a0)) t117 _ A9.out).mono ?_); rintro e w' ⟨rfl, ⟨nd, rfl⟩⟩; refine ⟨_, rfl, ?_⟩) | ((with_reducible refine gate_callee (f := 22) rfl ?_); refine goesL_ (some 25) rfl rfl Try.func22 (by kernel_rfl) rfl #[.int .u64 a0] rfl (by (try simp only [List.map_toArray, List.map_cons, List.map_nil]); first | done | rfl | (simp only [List.length_drop, List.length_take]; rfl)) ?_; (with_reducible refine (impl_HashUint64.calls a0 t118 _ A10.out).mono ?_); rintro e w' ⟨rfl, ⟨nd, rfl⟩⟩; refine ⟨_, rfl, ?_⟩))
          go_ret
          exact ⟨by first | rfl | (simp; done) | (simp [*]; done), by repeat (first | exact Drawn0.refl _ | apply Drawn0.step)⟩

/-- THE ONE PURE STATEMENT of laws_FnHashes: yours. -/
def laws_FnHashes.Pure : Prop := ∀ (a0 : Int), (Lit.int .u64 a0).wf = true → ∃ k, laws_FnHashes.f k a0 = some true
theorem laws_FnHashes.walk (P : laws_FnHashes.Pure) (a0 : Int) (w : World) (w0 : (Lit.int .u64 a0).wf = true) :
    Calls Try.prog 8 #[.int .u64 a0] w fun e w' => e = .returned (.bool true) ∧ Below w.heap.size w w' := by
  obtain ⟨k, h⟩ := P a0 w0
  refine (laws_FnHashes.calls k a0 true w h).mono ?_
  rintro e w' ⟨rfl, hd⟩
  exact ⟨rfl, hd.below⟩

end Go.Proofs.Ytdhfpgbidlanaaa.PFnHashes
