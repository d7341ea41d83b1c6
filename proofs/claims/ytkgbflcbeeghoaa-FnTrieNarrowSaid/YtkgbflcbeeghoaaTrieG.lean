/- Ternary search tries in memory: collect, the words below a node. For every node. -/
import Derived.Test.YtkgbflcbeeghoaaTrieE
import Derived.Test.YtkgbflcbeeghoaaTrieF
namespace Go.Proofs.Ytkgbflcbeeghoaa.Trie
open Go Go.RowKit Go.Deep Go.Proofs.Ytkgbflcbeeghoaa.Hk Go.Proofs.Ytkgbflcbeeghoaa.TriePure Go.Proofs.Ytkgbflcbeeghoaa.Pre Go.Proofs.YtkgbflcbeeghoaaW.PrintWords Go.Proofs.YtkgbflcbeeghoaaW.PrintLast Go.Proofs.YtkgbflcbeeghoaaW.PrintMore
def col6.T : Bool × List (List Nat × List Nat) := (true, [([], []), ([], []), ([1], [1]), ([2], [2]), ([3], [3]), ([], []), ([], []), ([6], [6]), ([7], [7]), ([8], [8]), ([9], [9]), ([5, 10], [5, 10]), ([], []), ([0, 4, 11, 12, 11], [0, 4, 11, 12]), ([13, 13, 0, 1, 2, 3, 4, 5, 6, 7, 8, 9, 10, 11, 12, 13], [12, 13])])
def col6.B : List Nat := [0, 0, 2, 6, 14, 0, 0, 64, 192, 448, 960, 2016, 0, 8191, 16383]
theorem col6.tab : rtab .any (opsOf Try.f64 6) = col6.T := by kernel_rfl
theorem col6.bits : waitsOk col6.T.2 col6.B = true := by kernel_rfl

def st (l : W) : ByteArray := ⟨l.toArray⟩
def texts (ps : W) (l : TriePure.R) : List ByteArray := l.map (fun p => st (ps ++ p.1))
theorem texts_app (ps : W) (a b : TriePure.R) : texts ps (a ++ b) = texts ps a ++ texts ps b := List.map_append ..
theorem texts_under (ps : W) (c : UInt8) (l : TriePure.R) : texts ps (under c l) = texts (ps ++ [c]) l := by
  simp [texts, under, Function.comp_def]
theorem texts_len (ps : W) (l : TriePure.R) : (texts ps l).length = l.length := List.length_map ..
abbrev Strs (w : World) (base : Nat) (q : Value) (ws : List ByteArray) : Prop := Kd.string.R 9 w base (fun _ => True) q ws
/-- What collect leaves: more words in the row, the bytes as they were, no other block turned. -/
structure Col (base : Nat) (w w1 : World) (v q q1 : Value) (ps : W) (ws : List ByteArray) : Prop where
  row : Strs w1 base q1 ws
  pre : Pre 5 w1 base v ps
  fr : Fr (fun k => some k = v.ownBlock ∨ some k = q.ownBlock) w w1
  at_ : q1.ownBlock = q.ownBlock ∨ ∃ b, q1.ownBlock = some b ∧ w.heap.size ≤ b
section
variable {base : Nat} {w w1 w2 : World} {v v1 q q1 q2 : Value} {ps ps1 : W} {ws ws1 : List ByteArray}
theorem Col.below (h : Col base w w1 v q q1 ps ws) (hb : base ≤ w.heap.size) (hv : Pre 5 w base v ps) (hq : Strs w base q ws1) : Below base w w1 := h.fr.below hb (fun k hk => by
  rcases hk with e | e
  · exact (hv.typed k e.symm).1
  · exact Kd.R_base hq k e.symm)
theorem apart (hv : Pre 5 w base v ps) (hq : Strs w base q ws) : ∀ k, v.ownBlock = some k → some k ≠ q.ownBlock := fun k hk e => by
  obtain ⟨_, _, cs, m, h1⟩ := hv.typed k hk
  obtain ⟨cs2, h2⟩ := Kd.R_typed hq k e.symm
  rw [h1] at h2
  injection h2 with h2
  injection h2 with _ h2 _
  cases h2
/-- One behind the other, with the same bytes. -/
theorem Col.then (h : Col base w w1 v q q1 ps ws) (k : Col base w1 w2 v q1 q2 ps ws1) : Col base w w2 v q q2 ps ws1 := ⟨k.row, k.pre, h.fr.trans k.fr (fun n hn e => by
  rcases e with e | e
  · exact .inl e
  · rcases h.at_ with a | ⟨b, a, hb⟩
    · exact .inr (e.trans a)
    · rw [a] at e; injection e with e; omega), by
  rcases k.at_ with a | ⟨b, a, hb⟩
  · rcases h.at_ with a1 | ⟨b1, a1, hb1⟩
    · exact .inl (a.trans a1)
    · exact .inr ⟨b1, a.trans a1, hb1⟩
  · exact .inr ⟨b, a, Nat.le_trans h.fr.size hb⟩⟩
/-- With one byte more, and back. -/
theorem Col.back {x : UInt8} (h0 : Pre 5 w base v ps) (hg : w.grownBy w1 v.ownBlock) (ha : After w v v1) (hp : Pre 5 w1 base v ps) (h : Col base w1 w2 v1 q q1 (ps ++ [x]) ws1) (hs : w.heap.size ≤ w1.heap.size) (hq : ∀ k, v.ownBlock = some k → some k ≠ q.ownBlock) : Col base w w2 v q q1 ps ws1 := by
  have f1 : Fr (fun k => some k = v.ownBlock ∨ some k = q.ownBlock) w w1 := (Fr.of_grown hg).mono (fun k _ e => .inl e)
  refine ⟨h.row, ha.back h0 hp h.pre (fun k hk e hne => h.fr.block k hk (fun z => z.elim hne (hq k e.symm))), f1.trans h.fr (fun n hn e => ?_), ?_⟩
  · rcases e with e | e
    · rcases ha.at_ with a | ⟨b, a, hb⟩
      · exact .inl (e.trans a)
      · rw [a] at e; injection e with e; omega
    · exact .inr e
  · rcases h.at_ with a | ⟨b, a, hb⟩
    · exact .inl a
    · exact .inr ⟨b, a, Nat.le_trans hs hb⟩
theorem Col.later (h : Col base w w1 v q q1 ps ws) (hb : Below w1.heap.size w1 w2) : Col base w w2 v q q1 ps ws :=
  ⟨Kd.R_below h.row hb, h.pre.below hb, h.fr.trans (S' := fun _ => False) (Fr.new hb) (fun _ _ e => e.elim), h.at_⟩
theorem Col.refl (hv : Pre 5 w base v ps) (hq : Strs w base q ws) : Col base w w v q q ps ws := ⟨hq, hv, Fr.refl _ _, .inl rfl⟩
/-- A word more in the row. -/
theorem Col.word (h : Col base w w1 v q q1 ps ws) (hv : ∀ k, v.ownBlock = some k → some k ≠ q1.ownBlock) (hg : w1.grownBy w2 q1.ownBlock) (hR : Strs w2 base q2 ws1) (hat : q2.ownBlock = q1.ownBlock ∨ ∃ b, q2.ownBlock = some b ∧ w1.heap.size ≤ b) : Col base w w2 v q q2 ps ws1 :=
  h.then ⟨hR, h.pre.step hg hv, (Fr.of_grown hg).mono (fun _ _ e => .inr e), hat⟩
theorem in_keep {t : N} (h : t.In w) (hlt : ∀ b ∈ t.ids, b < base) (hb : Below base w w1) : t.In w1 := h.fr (Fr.of_below hb) (fun b hb' e => by have := hlt b hb'; omega)
end
theorem used_some : ∀ {t : T}, T.Used t → t.isNil = false → ∃ p, p ∈ T.words t
  | .nil, _, h => by cases h
  | .node c l m r v ok, ⟨h, _, hm, _⟩, _ => by
    rcases h with h | h
    · subst h
      exact ⟨([c], v), by simp [T.words, T.own]⟩
    · obtain ⟨p, hp⟩ := used_some hm h
      exact ⟨(c :: p.1, p.2), by simp only [T.words, T.own, List.mem_append]; exact .inr (.inl (.inr (List.mem_map.2 ⟨p, hp, rfl⟩)))⟩
abbrev B32 : Nat := 2199023255552
theorem room {c : UInt8} {l m r : T} {v : Int} {ok : Bool} {ps : W} {n : Nat} (hU : T.Used (.node c l m r v ok)) (h1 : ∀ p ∈ T.words (.node c l m r v ok), ps.length + p.1.length ≤ B32) (h2 : n + (T.words (.node c l m r v ok)).length ≤ B32) :
    (∀ p ∈ T.words l, ps.length + p.1.length ≤ B32) ∧ (∀ p ∈ T.words m, (ps ++ [c]).length + p.1.length ≤ B32) ∧ (∀ p ∈ T.words r, ps.length + p.1.length ≤ B32) ∧ ps.length + 1 ≤ B32 ∧
    n + (T.words l).length + (if ok then 1 else 0) + (T.words m).length + (T.words r).length ≤ B32 := by
  simp only [T.words, T.own, under, List.mem_append, List.length_append, List.length_map] at h1 h2
  refine ⟨fun p hp => h1 p (.inl hp), fun p hp => ?_, fun p hp => h1 p (.inr (.inr hp)), ?_, ?_⟩
  · have := h1 (c :: p.1, p.2) (.inr (.inl (.inr (List.mem_map.2 ⟨p, hp, rfl⟩))))
    simp only [List.length_cons, List.length_append, List.length_nil] at this ⊢
    omega
  · rcases hU.1 with h | h
    · subst h
      have := h1 ([c], v) (.inr (.inl (.inl (by simp))))
      simpa using this
    · obtain ⟨p, hp⟩ := used_some hU.2.2.1 h
      have := h1 (c :: p.1, p.2) (.inr (.inl (.inr (List.mem_map.2 ⟨p, hp, rfl⟩))))
      simp only [List.length_cons] at this
      omega
  · cases ok <;> simp only [if_true, if_false, List.length_nil, List.length_singleton, Bool.false_eq_true] at h2 ⊢ <;> omega
theorem info5 : (Try.prog.info? 5).map (fun i => (i.zero, i.size, i.bytes)) = some (some (.int .u8 0), 1, 1) := by kernel_rfl
theorem info9 : (Try.prog.info? 9).map (fun i => (i.zero, i.size, i.bytes)) = some (some (.string ByteArray.empty), 1, 16) := by kernel_rfl
set_option maxHeartbeats 8000000 in
set_option maxRecDepth 100000 in
theorem collect_any (tp : Option Addr) (base : Nat) : ∀ (t : N) (ps : W) (v q : Value) (ws : List ByteArray) (w : World), t.In w → (∀ b ∈ t.ids, b < base) → base ≤ w.heap.size → Pre 5 w base v ps → Strs w base q ws → T.Used t.raw →
    (∀ p ∈ T.words t.raw, ps.length + p.1.length ≤ B32) → ws.length + (T.words t.raw).length ≤ B32 →
    Calls Try.prog 64 #[.pointer tp, t.ptr, v, q] w fun e w' => ∃ q1, e = .returned q1 ∧ Col base w w' v q q1 ps (ws ++ texts ps (T.words t.raw)) := by
  intro t
  induction t with
  | nil =>
    intro ps v q ws w _ _ _ hv hq _ _ _
    have HC := hid (Col.refl hv hq)
    clear hv hq
    rw [show N.nil.ptr = .pointer none from rfl]
    go_enter Try.func64, Try.ntmps64
    go_wp2_with fail
    go_ret
    exact ⟨_, rfl, by rw [show ws ++ texts ps (T.words N.nil.raw) = ws from List.append_nil _]; exact HC.out⟩
  | node b c l m r vv ok ihl ihm ihr =>
    intro ps v q ws w hin hlt hb hv hq hU h1 h2
    cases ok with
    | false =>
      have HI : Hid ((N.node b c l m r vv false).In w) := hid hin
      have HD0 : Hid (∀ x ∈ (N.node b c l m r vv false).ids, x < base) := hid hlt
      have HZ := hid (room (n := ws.length) hU h1 h2)
      have HB := hid hb
      have HV := hid hv
      have HQ := hid hq
      have HL := hid (fun ps v q ws w h1 h2 h3 h4 h5 h6 => ihl ps v q ws w h1 (fun x hx => hlt x (by simp [N.ids, hx])) h2 h3 h4 hU.2.1 h5 h6)
      have HM0 := hid (fun ps v q ws w h1 h2 h3 h4 h5 h6 => ihm ps v q ws w h1 (fun x hx => hlt x (by simp [N.ids, hx])) h2 h3 h4 hU.2.2.1 h5 h6)
      have HR0 := hid (fun ps v q ws w h1 h2 h3 h4 h5 h6 => ihr ps v q ws w h1 (fun x hx => hlt x (by simp [N.ids, hx])) h2 h3 h4 hU.2.2.2 h5 h6)
      have k1 : w.cell? ⟨b, 1, none⟩ = some l.ptr := hin.1.cell 1
      obtain ⟨ul, hul⟩ := l.ptr_some
      obtain ⟨um, hum⟩ := m.ptr_some
      obtain ⟨ur, hur⟩ := r.ptr_some
      have HUL := hid hul
      have HUM := hid hum
      have HUR := hid hur
      rw [hul] at k1 HL
      rw [hum] at HM0
      rw [hur] at HR0
      have HM := HM0
      have HR := HR0
      clear hin hlt hU h1 h2 hb hv hq ihl ihm ihr hul hum hur HM0 HR0
      have HE : Hid (ws ++ texts ps (T.words (N.node b c l m r vv false).raw) = (ws ++ texts ps (T.words l.raw)) ++ texts (ps ++ [c]) (T.words m.raw) ++ texts ps (T.words r.raw)) := by
        show Hid (ws ++ texts ps (T.words l.raw ++ (T.own c (T.words m.raw) vv false ++ T.words r.raw)) = _)
        simp only [T.own, texts_app, texts_under, if_false, Bool.false_eq_true, List.append_assoc, List.nil_append]
        exact hid trivial
      rw [show (N.node b c l m r vv false).ptr = .pointer (some ⟨b, 0, none⟩) from rfl]
      go_enter Try.func64, Try.ntmps64
      go_wp2_with fail
      clear k1
      have hcl := HL.out ps v q ws w HI.out.2.1 HB.out HV.out HQ.out HZ.out.1 (by have h_ := HZ.out.2.2.2.2; omega)
      refine hcl.mono ?_
      clear hcl
      rintro e w1 ⟨q1, rfl, hc⟩
      have HC := hid hc
      clear hc
      have HI1 : Hid ((N.node b c l m r vv false).In w1) := hid (in_keep HI.out HD0.out (HC.out.below HB.out HV.out HQ.out))
      have k0 : w1.cell? ⟨b, 0, none⟩ = some (.int .u8 (c.toNat : Int)) := HI1.out.1.cell 0
      have k2 : w1.cell? ⟨b, 2, none⟩ = some (.pointer um) := by rw [← HUM.out]; exact HI1.out.1.cell 2
      have k3 : w1.cell? ⟨b, 3, none⟩ = some (.pointer ur) := by rw [← HUR.out]; exact HI1.out.1.cell 3
      have k5 : w1.cell? ⟨b, 5, none⟩ = some (.bool false) := HI1.out.1.cell 5
      clear HI1
      go_upto_region 6 with fail
      have HD : Hid (Col base w w1.drew v q q1 ps (ws ++ texts ps (T.words l.raw))) := hid (HC.out.later (below_drew (Below.refl _ _)))
      have x0 : w1.drew.cell? ⟨b, 0, none⟩ = some (.int .u8 (c.toNat : Int)) := k0
      have x2 : w1.drew.cell? ⟨b, 2, none⟩ = some (.pointer um) := k2
      clear k0 k2 k3 k5 HC
      refine start_ (n := 15) (S := fun w' => w'.cell? ⟨b, 2, none⟩ = some (.pointer um) ∧ w'.cell? ⟨b, 0, none⟩ = some (.int .u8 (c.toNat : Int))) (ds := [13]) #[false, false, false, false, false, false, false, false, false, false, false, false, false, false, false] (by kernel_rfl) rfl rfl ⟨x2, x0⟩ (fun hHeld => ?_)
      refine with_tabW col6.tab col6.bits (fun HT_ HW_ => ?_)
      clear x0 x2
      generalize w1.drew = Wd at HD hHeld ⊢
      have HId : Hid ((N.node b c l m r vv false).In Wd) := hid (in_keep HI.out HD0.out (HD.out.below HB.out HV.out HQ.out))
      have HBd : Hid (base ≤ Wd.heap.size) := hid (Nat.le_trans HB.out HD.out.fr.size)
      refine pure_ (i := 0) (N := some 35) (v := ?_) (a' := ?_) #[true, false, false, false, false, false, false, false, false, false, false, false, false, false, false] rfl rfl (any_of HT_.out (by kernel_rfl)) (fun _ _ _ h => h) (Or.inl ⟨by rfl, ?_⟩) ?_ ?_
      rotate_left
      · intro w'
        go_simp
        with_reducible rfl
      rotate_left
      · simp only [Act.put, List.setIfInBounds_toArray, List.set_cons_zero, List.set_cons_succ]
        rfl
      refine pure_ (i := 1) (N := some 36) (v := ?_) (a' := ?_) #[true, true, false, false, false, false, false, false, false, false, false, false, false, false, false] rfl rfl (any_of HT_.out (by kernel_rfl)) (fun _ _ _ h => h) (Or.inl ⟨by rfl, ?_⟩) ?_ ?_
      rotate_left
      · intro w'
        go_simp
        with_reducible rfl
      rotate_left
      · simp only [Act.put, List.setIfInBounds_toArray, List.set_cons_zero, List.set_cons_succ]
        rfl
      refine pure_ (i := 2) (N := some 37) (v := ?_) (a' := ?_) #[true, true, true, false, false, false, false, false, false, false, false, false, false, false, false] rfl rfl (any_of HT_.out (by kernel_rfl)) (fun _ _ _ h => h) (Or.inl ⟨by rfl, ?_⟩) ?_ ?_
      rotate_left
      · intro w'
        go_simp
        with_reducible rfl
      rotate_left
      · simp only [Act.put, List.setIfInBounds_toArray, List.set_cons_zero, List.set_cons_succ]
        rfl
      refine pure_ (i := 3) (N := some 38) (v := ?_) (a' := ?_) #[true, true, true, true, false, false, false, false, false, false, false, false, false, false, false] rfl rfl (any_of HT_.out (by kernel_rfl)) (fun _ _ _ h => h) (Or.inl ⟨by rfl, ?_⟩) ?_ ?_
      rotate_left
      · intro w'
        go_simp
        with_reducible rfl
      rotate_left
      · simp only [Act.put, List.setIfInBounds_toArray, List.set_cons_zero, List.set_cons_succ]
        rfl
      refine take_ (i := 4) (N := some 39) (v := ?_) (a' := ?_) #[true, true, true, true, true, false, false, false, false, false, false, false, false, false, false] rfl rfl (take_ofW HT_.out HW_.out (by kernel_rfl)) (fun _ _ _ h => h) (Or.inl ⟨by rfl, ?_⟩) hHeld ?_ ?_
      rotate_left
      · intro w' s0
        obtain ⟨s1, s2⟩ := s0
        go_simp
        with_reducible rfl
      rotate_left
      · simp only [Act.put, List.setIfInBounds_toArray, List.set_cons_zero, List.set_cons_succ]
        rfl
      refine pure_ (i := 5) (N := some 40) (v := ?_) (a' := ?_) #[true, true, true, true, true, true, false, false, false, false, false, false, false, false, false] rfl rfl (any_of HT_.out (by kernel_rfl)) (fun _ _ _ h => h) (Or.inl ⟨by rfl, ?_⟩) ?_ ?_
      rotate_left
      · intro w'
        go_simp
        with_reducible rfl
      rotate_left
      · simp only [Act.put, List.setIfInBounds_toArray, List.set_cons_zero, List.set_cons_succ]
        rfl
      refine pure_ (i := 6) (N := some 41) (v := ?_) (a' := ?_) #[true, true, true, true, true, true, true, false, false, false, false, false, false, false, false] rfl rfl (any_of HT_.out (by kernel_rfl)) (fun _ _ _ h => h) (Or.inl ⟨by rfl, ?_⟩) ?_ ?_
      rotate_left
      · intro w'
        go_simp
        with_reducible rfl
      rotate_left
      · simp only [Act.put, List.setIfInBounds_toArray, List.set_cons_zero, List.set_cons_succ]
        rfl
      refine pure_ (i := 7) (N := some 42) (v := ?_) (a' := ?_) #[true, true, true, true, true, true, true, true, false, false, false, false, false, false, false] rfl rfl (any_of HT_.out (by kernel_rfl)) (fun _ _ _ h => h) (Or.inl ⟨by rfl, ?_⟩) ?_ ?_
      rotate_left
      · intro w'
        go_simp
        with_reducible rfl
      rotate_left
      · simp only [Act.put, List.setIfInBounds_toArray, List.set_cons_zero, List.set_cons_succ]
        rfl
      refine pure_ (i := 8) (N := some 43) (v := ?_) (a' := ?_) #[true, true, true, true, true, true, true, true, true, false, false, false, false, false, false] rfl rfl (any_of HT_.out (by kernel_rfl)) (fun _ _ _ h => h) (Or.inl ⟨by rfl, ?_⟩) ?_ ?_
      rotate_left
      · intro w'
        go_simp
        with_reducible rfl
      rotate_left
      · simp only [Act.put, List.setIfInBounds_toArray, List.set_cons_zero, List.set_cons_succ]
        rfl
      refine take_ (i := 9) (N := some 44) (v := ?_) (a' := ?_) #[true, true, true, true, true, true, true, true, true, true, false, false, false, false, false] rfl rfl (take_ofW HT_.out HW_.out (by kernel_rfl)) (fun _ _ _ h => h) (Or.inl ⟨by rfl, ?_⟩) hHeld ?_ ?_
      rotate_left
      · intro w' s0
        obtain ⟨s1, s2⟩ := s0
        go_simp
        with_reducible rfl
      rotate_left
      · simp only [Act.put, List.setIfInBounds_toArray, List.set_cons_zero, List.set_cons_succ]
        rfl
      refine pure_ (i := 12) (N := some 47) (v := ?_) (a' := ?_) #[true, true, true, true, true, true, true, true, true, true, false, false, true, false, false] rfl rfl (any_of HT_.out (by kernel_rfl)) (fun _ _ _ h => h) (Or.inl ⟨by rfl, ?_⟩) ?_ ?_
      rotate_left
      · intro w'
        go_simp
        with_reducible rfl
      rotate_left
      · simp only [Act.put, List.setIfInBounds_toArray, List.set_cons_zero, List.set_cons_succ]
        rfl
      refine one_ (i := 10) (N := some 45) #[true, true, true, true, true, true, true, true, true, true, true, false, true, false, false] rfl rfl (one_of HT_.out (by kernel_rfl)) (by decide) (fun K_ hK => ?_)
      refine value_ (w1 := ?_) (v := ?_) (by rfl) rfl ?_ ?_
      rotate_left 2
      · go_simp
        constructor
        · rfl
        · rfl
      refine hK.out _ _ ⟨by rw [← HUM.out]; exact (in_keep HId.out HD0.out ((Below.refl base Wd).alloc HBd.out _)).1.cell 2, (in_keep HId.out HD0.out ((Below.refl base Wd).alloc HBd.out _)).1.cell 0⟩ (fun hHeld => ?_)
      clear hK K_
      have HIa : Hid ((N.node b c l m r vv false).In (Wd.alloc (.cells #[.int .u8 (c.toNat : Int)] 5))) := hid (in_keep HId.out HD0.out ((Below.refl base Wd).alloc HBd.out _))
      have HA : Hid (Pre 5 (Wd.alloc (.cells #[.int .u8 (c.toNat : Int)] 5)) base v ps ∧ Strs (Wd.alloc (.cells #[.int .u8 (c.toNat : Int)] 5)) base q1 (ws ++ texts ps (T.words l.raw)) ∧ base ≤ (Wd.alloc (.cells #[.int .u8 (c.toNat : Int)] 5)).heap.size ∧ Col base w (Wd.alloc (.cells #[.int .u8 (c.toNat : Int)] 5)) v q q1 ps (ws ++ texts ps (T.words l.raw))) :=
        have hc := HD.out.later (below_alloc (Below.refl _ _) (.cells #[.int .u8 (c.toNat : Int)] 5))
        hid ⟨hc.pre, hc.row, Nat.le_trans HB.out hc.fr.size, hc⟩
      have kx : (Wd.alloc (.cells #[.int .u8 (c.toNat : Int)] 5)).cell? ⟨Wd.heap.size, 0, none⟩ = some (bv c) := (Blk.new Wd _ _).cell 0
      clear HD HId HBd
      generalize Wd.alloc (.cells #[.int .u8 (c.toNat : Int)] 5) = Wa at HA HIa kx hHeld ⊢
      refine norm_ (a' := ?_) ?_ ?_
      rotate_left
      · show Act.put _ (some 45) _ = _
        simp only [Act.put, List.setIfInBounds_toArray, List.set_cons_zero, List.set_cons_succ]
        rfl
      refine one_ (i := 11) (N := some 46) #[true, true, true, true, true, true, true, true, true, true, true, true, true, false, false] rfl rfl (one_of HT_.out (by kernel_rfl)) (by decide) (fun K_ hK => ?_)
      refine append_keep_step rfl (.tmp 40) (.tmp 45) rfl Try.underlying100 info5 (base := base) (v := v) (ps := ps) rfl Wd.heap.size c rfl HA.out.1 HA.out.2.2.1 kx (by have h_ := HZ.out.2.2.2.1; unfold B32 at h_; omega) ?_
      intro v1 W2 hp1 hp hg ha
      have HG : Hid (Pre 5 W2 base v1 (ps ++ [c]) ∧ Pre 5 W2 base v ps ∧ Wa.grownBy W2 v.ownBlock ∧ After Wa v v1) := hid ⟨hp1, hp, hg, ha⟩
      have HI2 : Hid ((N.node b c l m r vv false).In W2) := hid (in_keep HIa.out HD0.out ((Fr.of_grown hg).below HA.out.2.2.1 (fun k hk => (HA.out.1.typed k hk.symm).1)))
      have HS : Hid (Strs W2 base q1 (ws ++ texts ps (T.words l.raw)) ∧ base ≤ W2.heap.size) := by
        have hap := apart HA.out.1 HA.out.2.1
        exact hid ⟨Kd.R_mono (Kd.R_grown (Kd.R_reok (ok := fun k => some k ≠ v.ownBlock) rfl HA.out.2.1 (fun k hk e => hap k e.symm hk.symm)) hg (fun _ h => h)) (fun _ _ => trivial), Nat.le_trans HA.out.2.2.1 hg.size⟩
      clear hp1 hp hg ha kx
      refine hK.out _ _ ⟨by rw [← HUM.out]; exact (HI2.out).1.cell 2, (HI2.out).1.cell 0⟩ (fun hHeld => ?_)
      clear hK K_
      refine norm_ (a' := ?_) ?_ ?_
      rotate_left
      · show Act.put _ (some 46) _ = _
        simp only [Act.put, List.setIfInBounds_toArray, List.set_cons_zero, List.set_cons_succ]
        rfl
      refine last_ (i := 13) (N := some 48) #[true, true, true, true, true, true, true, true, true, true, true, true, true, true, false] rfl rfl (one_of HT_.out (by kernel_rfl)) (by decide) (fun K_ hK => ?_)
      refine call_ (N := some 48) 64 #[.pointer tp, .pointer um, v1, q1] (by rfl) rfl (by go_simp) ?_
      have HCall_ := HM.out (ps ++ [c]) v1 q1 (ws ++ texts ps (T.words l.raw)) W2 HI2.out.2.2.1 HS.out.2 HG.out.1 HS.out.1 HZ.out.2.1 (by have h_ := HZ.out.2.2.2.2; simp only [List.length_append, texts_len, if_false, Bool.false_eq_true] at h_ ⊢; omega)
      refine HCall_.mono ?_
      clear HCall_
      rintro e W3 ⟨q3, rfl, hc3⟩
      have HC3 : Hid (Col base w W3 v q q3 ps ((ws ++ texts ps (T.words l.raw)) ++ texts (ps ++ [c]) (T.words m.raw))) := hid (HA.out.2.2.2.then (Col.back HA.out.1 HG.out.2.2.1 HG.out.2.2.2 HG.out.2.1 hc3 HG.out.2.2.1.size (apart HA.out.1 HA.out.2.1)))
      clear hc3 HA HG HS HI2 HIa
      refine ⟨_, rfl, ?_⟩
      refine hK.out _ _ ?_
      clear hK K_
      refine norm_ (a' := ?_) ?_ ?_
      rotate_left
      · show Act.put _ (some 48) _ = _
        simp only [Act.put, List.setIfInBounds_toArray, List.set_cons_zero, List.set_cons_succ]
        rfl
      refine pure_ (i := 14) (N := some 3) (v := ?_) (a' := ?_) #[true, true, true, true, true, true, true, true, true, true, true, true, true, true, true] rfl rfl (any_of HT_.out (by kernel_rfl)) (fun _ _ _ h => h) (Or.inl ⟨by rfl, ?_⟩) ?_ ?_
      rotate_left
      · intro w'
        go_simp
        with_reducible rfl
      rotate_left
      · simp only [Act.put, List.setIfInBounds_toArray, List.set_cons_zero, List.set_cons_succ]
        rfl
      refine done_ (done_of HT_.out (by kernel_rfl)) ?_
      clear HT_ HW_
      have HI3 : Hid ((N.node b c l m r vv false).In W3) := hid (in_keep HI.out HD0.out (HC3.out.below HB.out HV.out HQ.out))
      have k3 : W3.cell? ⟨b, 3, none⟩ = some (.pointer ur) := by rw [← HUR.out]; exact HI3.out.1.cell 3
      go_wp2_with fail
      clear k3
      have hcl := HR.out ps v q3 ((ws ++ texts ps (T.words l.raw)) ++ texts (ps ++ [c]) (T.words m.raw)) W3 HI3.out.2.2.2 (Nat.le_trans HB.out HC3.out.fr.size) HC3.out.pre HC3.out.row HZ.out.2.2.1 (by have h_ := HZ.out.2.2.2.2; simp only [List.length_append, texts_len, if_false, Bool.false_eq_true] at h_ ⊢; omega)
      refine hcl.mono ?_
      clear hcl
      rintro e W4 ⟨q4, rfl, hc4⟩
      have HC4 := hid (HC3.out.then hc4)
      clear hc4 HC3
      go_wp2_with fail
      go_ret
      exact ⟨_, rfl, by rw [HE.out]; exact HC4.out⟩
    | true =>
      have HI : Hid ((N.node b c l m r vv true).In w) := hid hin
      have HD0 : Hid (∀ x ∈ (N.node b c l m r vv true).ids, x < base) := hid hlt
      have HZ := hid (room (n := ws.length) hU h1 h2)
      have HB := hid hb
      have HV := hid hv
      have HQ := hid hq
      have HL := hid (fun ps v q ws w h1 h2 h3 h4 h5 h6 => ihl ps v q ws w h1 (fun x hx => hlt x (by simp [N.ids, hx])) h2 h3 h4 hU.2.1 h5 h6)
      have HM0 := hid (fun ps v q ws w h1 h2 h3 h4 h5 h6 => ihm ps v q ws w h1 (fun x hx => hlt x (by simp [N.ids, hx])) h2 h3 h4 hU.2.2.1 h5 h6)
      have HR0 := hid (fun ps v q ws w h1 h2 h3 h4 h5 h6 => ihr ps v q ws w h1 (fun x hx => hlt x (by simp [N.ids, hx])) h2 h3 h4 hU.2.2.2 h5 h6)
      have k1 : w.cell? ⟨b, 1, none⟩ = some l.ptr := hin.1.cell 1
      obtain ⟨ul, hul⟩ := l.ptr_some
      obtain ⟨um, hum⟩ := m.ptr_some
      obtain ⟨ur, hur⟩ := r.ptr_some
      have HUL := hid hul
      have HUM := hid hum
      have HUR := hid hur
      rw [hul] at k1 HL
      rw [hum] at HM0
      rw [hur] at HR0
      have HM := HM0
      have HR := HR0
      clear hin hlt hU h1 h2 hb hv hq ihl ihm ihr hul hum hur HM0 HR0
      have HE : Hid (ws ++ texts ps (T.words (N.node b c l m r vv true).raw) = (ws ++ texts ps (T.words l.raw) ++ [st (ps ++ [c])]) ++ texts (ps ++ [c]) (T.words m.raw) ++ texts ps (T.words r.raw)) := by
        show Hid (ws ++ texts ps (T.words l.raw ++ (T.own c (T.words m.raw) vv true ++ T.words r.raw)) = _)
        simp only [T.own, texts_app, texts_under, if_true, List.append_assoc]
        exact hid rfl
      rw [show (N.node b c l m r vv true).ptr = .pointer (some ⟨b, 0, none⟩) from rfl]
      go_enter Try.func64, Try.ntmps64
      go_wp2_with fail
      clear k1
      have hcl := HL.out ps v q ws w HI.out.2.1 HB.out HV.out HQ.out HZ.out.1 (by have h_ := HZ.out.2.2.2.2; omega)
      refine hcl.mono ?_
      clear hcl
      rintro e w1 ⟨q1, rfl, hc⟩
      have HC := hid hc
      clear hc
      have HI1 : Hid ((N.node b c l m r vv true).In w1) := hid (in_keep HI.out HD0.out (HC.out.below HB.out HV.out HQ.out))
      have k0 : w1.cell? ⟨b, 0, none⟩ = some (.int .u8 (c.toNat : Int)) := HI1.out.1.cell 0
      have k2 : w1.cell? ⟨b, 2, none⟩ = some (.pointer um) := by rw [← HUM.out]; exact HI1.out.1.cell 2
      have k3 : w1.cell? ⟨b, 3, none⟩ = some (.pointer ur) := by rw [← HUR.out]; exact HI1.out.1.cell 3
      have k5 : w1.cell? ⟨b, 5, none⟩ = some (.bool true) := HI1.out.1.cell 5
      have kx : (w1.alloc (.cells #[.int .u8 (c.toNat : Int)] 5)).cell? ⟨w1.heap.size, 0, none⟩ = some (bv c) := (Blk.new w1 _ _).cell 0
      have HA : Hid (Col base w (w1.alloc (.cells #[.int .u8 (c.toNat : Int)] 5)) v q q1 ps (ws ++ texts ps (T.words l.raw)) ∧ base ≤ (w1.alloc (.cells #[.int .u8 (c.toNat : Int)] 5)).heap.size) :=
        have hc := HC.out.later (below_alloc (Below.refl _ _) (.cells #[.int .u8 (c.toNat : Int)] 5))
        hid ⟨hc, Nat.le_trans HB.out hc.fr.size⟩
      have HW := hid (HZ.out.2.2.2.2)
      go_wp2_with (first
        | ((with_reducible refine gate_builtin (b := .append) (xs := #[.tmp 25, .tmp 30]) rfl ?_); at_builtin
           refine append_keep rfl (.tmp 25) (.tmp 30) rfl Try.underlying100 info5 (base := base) (v := v) (ps := ps) rfl w1.heap.size c rfl HA.out.1.pre HA.out.2 kx (by have h_ := HZ.out.2.2.2.1; unfold B32 at h_; omega) ?_
           intro v1 w2 hp1 hp hg _
           have HX : Hid (Col base w w2 v q q1 ps (ws ++ texts ps (T.words l.raw)) ∧ base ≤ w2.heap.size) := by
             have hap := apart HA.out.1.pre HA.out.1.row
             exact hid ⟨HA.out.1.then ⟨Kd.R_mono (Kd.R_grown (Kd.R_reok (ok := fun k => some k ≠ v.ownBlock) rfl HA.out.1.row (fun k hk e => hap k e.symm hk.symm)) hg (fun _ h => h)) (fun _ _ => trivial), hp, (Fr.of_grown hg).mono (fun _ _ e => .inl e), .inl rfl⟩, Nat.le_trans HA.out.2 hg.size⟩
           obtain ⟨A1, c1, rfl, hC⟩ := hp1.text (by have h_ := HZ.out.2.2.2.1; unfold B32 at h_; simp only [List.length_append, List.length_singleton]; omega)
           rw [show (ps ++ [c]).length = ps.length + 1 by simp] at hC
           have hcv := Kd.C_string (P := Try.prog) (A := A1) (c := c1) Try.underlying100 Try.underlying5 Try.underlying9 hC
           rw [text_nums] at hcv
           clear hp1 hp hg hC kx HA HC k0 k2 k3 k5)
        | ((with_reducible refine gate_builtin (b := .append) (xs := #[.tmp 24, .tmp 33]) rfl ?_); at_builtin
           refine Kd.R_append (W := w2) Kd.string (w0 := w2) base rfl (.tmp 24) (.tmp 33) 24 9 (.string ByteArray.empty) 16 rfl Try.underlying24 info9 rfl (by decide) (by omega) q1 (ws ++ texts ps (T.words l.raw)) (st (ps ++ [c])) [.string (st (ps ++ [c]))] (fun _ => True) (fun _ => False) rfl rfl ?aP (fun _ hk => hk.elim) (fun _ _ => trivial) ?aO ?aB ?aS ?aL ?_
           case aP => exact rfl
           case aO => exact HX.out.1.row
           case aB => exact Below.refl _ _
           case aS => exact HX.out.2
           case aL => have h_ := HW.out; simp only [List.length_append, texts_len, if_true, B32] at h_ ⊢; omega
           intro q2 w3 ho _ hg hat
           have HC := hid (HX.out.1.word (apart HX.out.1.pre HX.out.1.row) hg ho hat)
           clear ho hg hat hcv HX HW))
      have HI3 : Hid ((N.node b c l m r vv true).In w3) := hid (in_keep HI.out HD0.out (HC.out.below HB.out HV.out HQ.out))
      have k0 : w3.cell? ⟨b, 0, none⟩ = some (.int .u8 (c.toNat : Int)) := HI3.out.1.cell 0
      have k2 : w3.cell? ⟨b, 2, none⟩ = some (.pointer um) := by rw [← HUM.out]; exact HI3.out.1.cell 2
      have k3 : w3.cell? ⟨b, 3, none⟩ = some (.pointer ur) := by rw [← HUR.out]; exact HI3.out.1.cell 3
      have k5 : w3.cell? ⟨b, 5, none⟩ = some (.bool true) := HI3.out.1.cell 5
      clear HI1 HI3
      go_upto_region 6 with fail
      have HD : Hid (Col base w w3.drew v q q2 ps (ws ++ texts ps (T.words l.raw) ++ [st (ps ++ [c])])) := hid (HC.out.later (below_drew (Below.refl _ _)))
      have x0 : w3.drew.cell? ⟨b, 0, none⟩ = some (.int .u8 (c.toNat : Int)) := k0
      have x2 : w3.drew.cell? ⟨b, 2, none⟩ = some (.pointer um) := k2
      clear k0 k2 k3 k5 HC
      refine start_ (n := 15) (S := fun w' => w'.cell? ⟨b, 2, none⟩ = some (.pointer um) ∧ w'.cell? ⟨b, 0, none⟩ = some (.int .u8 (c.toNat : Int))) (ds := [13]) #[false, false, false, false, false, false, false, false, false, false, false, false, false, false, false] (by kernel_rfl) rfl rfl ⟨x2, x0⟩ (fun hHeld => ?_)
      refine with_tabW col6.tab col6.bits (fun HT_ HW_ => ?_)
      clear x0 x2
      generalize w3.drew = Wd at HD hHeld ⊢
      have HId : Hid ((N.node b c l m r vv true).In Wd) := hid (in_keep HI.out HD0.out (HD.out.below HB.out HV.out HQ.out))
      have HBd : Hid (base ≤ Wd.heap.size) := hid (Nat.le_trans HB.out HD.out.fr.size)
      refine pure_ (i := 0) (N := some 35) (v := ?_) (a' := ?_) #[true, false, false, false, false, false, false, false, false, false, false, false, false, false, false] rfl rfl (any_of HT_.out (by kernel_rfl)) (fun _ _ _ h => h) (Or.inl ⟨by rfl, ?_⟩) ?_ ?_
      rotate_left
      · intro w'
        go_simp
        with_reducible rfl
      rotate_left
      · simp only [Act.put, List.setIfInBounds_toArray, List.set_cons_zero, List.set_cons_succ]
        rfl
      refine pure_ (i := 1) (N := some 36) (v := ?_) (a' := ?_) #[true, true, false, false, false, false, false, false, false, false, false, false, false, false, false] rfl rfl (any_of HT_.out (by kernel_rfl)) (fun _ _ _ h => h) (Or.inl ⟨by rfl, ?_⟩) ?_ ?_
      rotate_left
      · intro w'
        go_simp
        with_reducible rfl
      rotate_left
      · simp only [Act.put, List.setIfInBounds_toArray, List.set_cons_zero, List.set_cons_succ]
        rfl
      refine pure_ (i := 2) (N := some 37) (v := ?_) (a' := ?_) #[true, true, true, false, false, false, false, false, false, false, false, false, false, false, false] rfl rfl (any_of HT_.out (by kernel_rfl)) (fun _ _ _ h => h) (Or.inl ⟨by rfl, ?_⟩) ?_ ?_
      rotate_left
      · intro w'
        go_simp
        with_reducible rfl
      rotate_left
      · simp only [Act.put, List.setIfInBounds_toArray, List.set_cons_zero, List.set_cons_succ]
        rfl
      refine pure_ (i := 3) (N := some 38) (v := ?_) (a' := ?_) #[true, true, true, true, false, false, false, false, false, false, false, false, false, false, false] rfl rfl (any_of HT_.out (by kernel_rfl)) (fun _ _ _ h => h) (Or.inl ⟨by rfl, ?_⟩) ?_ ?_
      rotate_left
      · intro w'
        go_simp
        with_reducible rfl
      rotate_left
      · simp only [Act.put, List.setIfInBounds_toArray, List.set_cons_zero, List.set_cons_succ]
        rfl
      refine take_ (i := 4) (N := some 39) (v := ?_) (a' := ?_) #[true, true, true, true, true, false, false, false, false, false, false, false, false, false, false] rfl rfl (take_ofW HT_.out HW_.out (by kernel_rfl)) (fun _ _ _ h => h) (Or.inl ⟨by rfl, ?_⟩) hHeld ?_ ?_
      rotate_left
      · intro w' s0
        obtain ⟨s1, s2⟩ := s0
        go_simp
        with_reducible rfl
      rotate_left
      · simp only [Act.put, List.setIfInBounds_toArray, List.set_cons_zero, List.set_cons_succ]
        rfl
      refine pure_ (i := 5) (N := some 40) (v := ?_) (a' := ?_) #[true, true, true, true, true, true, false, false, false, false, false, false, false, false, false] rfl rfl (any_of HT_.out (by kernel_rfl)) (fun _ _ _ h => h) (Or.inl ⟨by rfl, ?_⟩) ?_ ?_
      rotate_left
      · intro w'
        go_simp
        with_reducible rfl
      rotate_left
      · simp only [Act.put, List.setIfInBounds_toArray, List.set_cons_zero, List.set_cons_succ]
        rfl
      refine pure_ (i := 6) (N := some 41) (v := ?_) (a' := ?_) #[true, true, true, true, true, true, true, false, false, false, false, false, false, false, false] rfl rfl (any_of HT_.out (by kernel_rfl)) (fun _ _ _ h => h) (Or.inl ⟨by rfl, ?_⟩) ?_ ?_
      rotate_left
      · intro w'
        go_simp
        with_reducible rfl
      rotate_left
      · simp only [Act.put, List.setIfInBounds_toArray, List.set_cons_zero, List.set_cons_succ]
        rfl
      refine pure_ (i := 7) (N := some 42) (v := ?_) (a' := ?_) #[true, true, true, true, true, true, true, true, false, false, false, false, false, false, false] rfl rfl (any_of HT_.out (by kernel_rfl)) (fun _ _ _ h => h) (Or.inl ⟨by rfl, ?_⟩) ?_ ?_
      rotate_left
      · intro w'
        go_simp
        with_reducible rfl
      rotate_left
      · simp only [Act.put, List.setIfInBounds_toArray, List.set_cons_zero, List.set_cons_succ]
        rfl
      refine pure_ (i := 8) (N := some 43) (v := ?_) (a' := ?_) #[true, true, true, true, true, true, true, true, true, false, false, false, false, false, false] rfl rfl (any_of HT_.out (by kernel_rfl)) (fun _ _ _ h => h) (Or.inl ⟨by rfl, ?_⟩) ?_ ?_
      rotate_left
      · intro w'
        go_simp
        with_reducible rfl
      rotate_left
      · simp only [Act.put, List.setIfInBounds_toArray, List.set_cons_zero, List.set_cons_succ]
        rfl
      refine take_ (i := 9) (N := some 44) (v := ?_) (a' := ?_) #[true, true, true, true, true, true, true, true, true, true, false, false, false, false, false] rfl rfl (take_ofW HT_.out HW_.out (by kernel_rfl)) (fun _ _ _ h => h) (Or.inl ⟨by rfl, ?_⟩) hHeld ?_ ?_
      rotate_left
      · intro w' s0
        obtain ⟨s1, s2⟩ := s0
        go_simp
        with_reducible rfl
      rotate_left
      · simp only [Act.put, List.setIfInBounds_toArray, List.set_cons_zero, List.set_cons_succ]
        rfl
      refine pure_ (i := 12) (N := some 47) (v := ?_) (a' := ?_) #[true, true, true, true, true, true, true, true, true, true, false, false, true, false, false] rfl rfl (any_of HT_.out (by kernel_rfl)) (fun _ _ _ h => h) (Or.inl ⟨by rfl, ?_⟩) ?_ ?_
      rotate_left
      · intro w'
        go_simp
        with_reducible rfl
      rotate_left
      · simp only [Act.put, List.setIfInBounds_toArray, List.set_cons_zero, List.set_cons_succ]
        rfl
      refine one_ (i := 10) (N := some 45) #[true, true, true, true, true, true, true, true, true, true, true, false, true, false, false] rfl rfl (one_of HT_.out (by kernel_rfl)) (by decide) (fun K_ hK => ?_)
      refine value_ (w1 := ?_) (v := ?_) (by rfl) rfl ?_ ?_
      rotate_left 2
      · go_simp
        constructor
        · rfl
        · rfl
      refine hK.out _ _ ⟨by rw [← HUM.out]; exact (in_keep HId.out HD0.out ((Below.refl base Wd).alloc HBd.out _)).1.cell 2, (in_keep HId.out HD0.out ((Below.refl base Wd).alloc HBd.out _)).1.cell 0⟩ (fun hHeld => ?_)
      clear hK K_
      have HIa : Hid ((N.node b c l m r vv true).In (Wd.alloc (.cells #[.int .u8 (c.toNat : Int)] 5))) := hid (in_keep HId.out HD0.out ((Below.refl base Wd).alloc HBd.out _))
      have HA : Hid (Pre 5 (Wd.alloc (.cells #[.int .u8 (c.toNat : Int)] 5)) base v ps ∧ Strs (Wd.alloc (.cells #[.int .u8 (c.toNat : Int)] 5)) base q2 (ws ++ texts ps (T.words l.raw) ++ [st (ps ++ [c])]) ∧ base ≤ (Wd.alloc (.cells #[.int .u8 (c.toNat : Int)] 5)).heap.size ∧ Col base w (Wd.alloc (.cells #[.int .u8 (c.toNat : Int)] 5)) v q q2 ps (ws ++ texts ps (T.words l.raw) ++ [st (ps ++ [c])])) :=
        have hc := HD.out.later (below_alloc (Below.refl _ _) (.cells #[.int .u8 (c.toNat : Int)] 5))
        hid ⟨hc.pre, hc.row, Nat.le_trans HB.out hc.fr.size, hc⟩
      have kx : (Wd.alloc (.cells #[.int .u8 (c.toNat : Int)] 5)).cell? ⟨Wd.heap.size, 0, none⟩ = some (bv c) := (Blk.new Wd _ _).cell 0
      clear HD HId HBd
      generalize Wd.alloc (.cells #[.int .u8 (c.toNat : Int)] 5) = Wa at HA HIa kx hHeld ⊢
      refine norm_ (a' := ?_) ?_ ?_
      rotate_left
      · show Act.put _ (some 45) _ = _
        simp only [Act.put, List.setIfInBounds_toArray, List.set_cons_zero, List.set_cons_succ]
        rfl
      refine one_ (i := 11) (N := some 46) #[true, true, true, true, true, true, true, true, true, true, true, true, true, false, false] rfl rfl (one_of HT_.out (by kernel_rfl)) (by decide) (fun K_ hK => ?_)
      refine append_keep_step rfl (.tmp 40) (.tmp 45) rfl Try.underlying100 info5 (base := base) (v := v) (ps := ps) rfl Wd.heap.size c rfl HA.out.1 HA.out.2.2.1 kx (by have h_ := HZ.out.2.2.2.1; unfold B32 at h_; omega) ?_
      intro v1 W2 hp1 hp hg ha
      have HG : Hid (Pre 5 W2 base v1 (ps ++ [c]) ∧ Pre 5 W2 base v ps ∧ Wa.grownBy W2 v.ownBlock ∧ After Wa v v1) := hid ⟨hp1, hp, hg, ha⟩
      have HI2 : Hid ((N.node b c l m r vv true).In W2) := hid (in_keep HIa.out HD0.out ((Fr.of_grown hg).below HA.out.2.2.1 (fun k hk => (HA.out.1.typed k hk.symm).1)))
      have HS : Hid (Strs W2 base q2 (ws ++ texts ps (T.words l.raw) ++ [st (ps ++ [c])]) ∧ base ≤ W2.heap.size) := by
        have hap := apart HA.out.1 HA.out.2.1
        exact hid ⟨Kd.R_mono (Kd.R_grown (Kd.R_reok (ok := fun k => some k ≠ v.ownBlock) rfl HA.out.2.1 (fun k hk e => hap k e.symm hk.symm)) hg (fun _ h => h)) (fun _ _ => trivial), Nat.le_trans HA.out.2.2.1 hg.size⟩
      clear hp1 hp hg ha kx
      refine hK.out _ _ ⟨by rw [← HUM.out]; exact (HI2.out).1.cell 2, (HI2.out).1.cell 0⟩ (fun hHeld => ?_)
      clear hK K_
      refine norm_ (a' := ?_) ?_ ?_
      rotate_left
      · show Act.put _ (some 46) _ = _
        simp only [Act.put, List.setIfInBounds_toArray, List.set_cons_zero, List.set_cons_succ]
        rfl
      refine last_ (i := 13) (N := some 48) #[true, true, true, true, true, true, true, true, true, true, true, true, true, true, false] rfl rfl (one_of HT_.out (by kernel_rfl)) (by decide) (fun K_ hK => ?_)
      refine call_ (N := some 48) 64 #[.pointer tp, .pointer um, v1, q2] (by rfl) rfl (by go_simp) ?_
      have HCall_ := HM.out (ps ++ [c]) v1 q2 (ws ++ texts ps (T.words l.raw) ++ [st (ps ++ [c])]) W2 HI2.out.2.2.1 HS.out.2 HG.out.1 HS.out.1 HZ.out.2.1 (by have h_ := HZ.out.2.2.2.2; simp only [List.length_append, texts_len, List.length_singleton, if_true] at h_ ⊢; omega)
      refine HCall_.mono ?_
      clear HCall_
      rintro e W3 ⟨q3, rfl, hc3⟩
      have HC3 : Hid (Col base w W3 v q q3 ps ((ws ++ texts ps (T.words l.raw) ++ [st (ps ++ [c])]) ++ texts (ps ++ [c]) (T.words m.raw))) := hid (HA.out.2.2.2.then (Col.back HA.out.1 HG.out.2.2.1 HG.out.2.2.2 HG.out.2.1 hc3 HG.out.2.2.1.size (apart HA.out.1 HA.out.2.1)))
      clear hc3 HA HG HS HI2 HIa
      refine ⟨_, rfl, ?_⟩
      refine hK.out _ _ ?_
      clear hK K_
      refine norm_ (a' := ?_) ?_ ?_
      rotate_left
      · show Act.put _ (some 48) _ = _
        simp only [Act.put, List.setIfInBounds_toArray, List.set_cons_zero, List.set_cons_succ]
        rfl
      refine pure_ (i := 14) (N := some 3) (v := ?_) (a' := ?_) #[true, true, true, true, true, true, true, true, true, true, true, true, true, true, true] rfl rfl (any_of HT_.out (by kernel_rfl)) (fun _ _ _ h => h) (Or.inl ⟨by rfl, ?_⟩) ?_ ?_
      rotate_left
      · intro w'
        go_simp
        with_reducible rfl
      rotate_left
      · simp only [Act.put, List.setIfInBounds_toArray, List.set_cons_zero, List.set_cons_succ]
        rfl
      refine done_ (done_of HT_.out (by kernel_rfl)) ?_
      clear HT_ HW_
      have HI3 : Hid ((N.node b c l m r vv true).In W3) := hid (in_keep HI.out HD0.out (HC3.out.below HB.out HV.out HQ.out))
      have k3 : W3.cell? ⟨b, 3, none⟩ = some (.pointer ur) := by rw [← HUR.out]; exact HI3.out.1.cell 3
      go_wp2_with fail
      clear k3
      have hcl := HR.out ps v q3 ((ws ++ texts ps (T.words l.raw) ++ [st (ps ++ [c])]) ++ texts (ps ++ [c]) (T.words m.raw)) W3 HI3.out.2.2.2 (Nat.le_trans HB.out HC3.out.fr.size) HC3.out.pre HC3.out.row HZ.out.2.2.1 (by have h_ := HZ.out.2.2.2.2; simp only [List.length_append, texts_len, List.length_singleton, if_true] at h_ ⊢; omega)
      refine hcl.mono ?_
      clear hcl
      rintro e W4 ⟨q4, rfl, hc4⟩
      have HC4 := hid (HC3.out.then hc4)
      clear hc4 HC3
      go_wp2_with fail
      go_ret
      exact ⟨_, rfl, by rw [HE.out]; exact HC4.out⟩
end Go.Proofs.Ytkgbflcbeeghoaa.Trie
