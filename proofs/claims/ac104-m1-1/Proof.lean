import JvmDerived
import JvmDerived.Pilot.@@N@@Statement
import JvmDerived.Pilot.@@N@@Code
set_option linter.unusedVariables false
set_option linter.unusedSimpArgs false
namespace Jvm.RoadKit
open Sem ClassFile Op Lib Jvm.Stand Jvm.Free Jvm.LawKit
section New
variable {p : Program} {l : Launch} {e : Env} {R : Room} {s : State} {m : MethodId} {args : Array Value} {below : List Frame} {meth : Method} {c : Code} {T : State} {locs : List Loc} {cells slots : Nat}
theorem own_retV (X : Stand p l e R s m args below meth c T locs cells slots) (hx : p.tables.exec = Jvm.exec) {pc : Nat} {Ls : Array Slot} {w : Value} {rest : List Value} {t : FieldType} (hret : meth.sig.returnType = some t) (ht : t.isReference = true) (hw : w.isRef = true)
    (hd : decode c.code pc = .ok (.areturn, 1)) {fs : List Frame} (hl : ∀ (f : JFrame) (acts : List Action), f.method = m → f.locked = none → f.entered = [] → (doReturn e (T.setTop f) acts (some w)).1 = T.setFrames fs) :
    Steps p.tables e below (T.setTop (mkF m pc Ls (w :: rest))) (T.setFrames fs) :=
  retOut X hx hret (by cases t <;> first | rfl | cases ht) (Or.inr (Or.inr (Or.inr (Or.inr ⟨rfl, ht, hw⟩)))) hd hl
theorem own_retI (X : Stand p l e R s m args below meth c T locs cells slots) (hx : p.tables.exec = Jvm.exec) {pc : Nat} {Ls : Array Slot} {z : Int32} {rest : List Value} (hret : meth.sig.returnType = some .int)
    (hd : decode c.code pc = .ok (.ireturn, 1)) {fs : List Frame} (hl : ∀ (f : JFrame) (acts : List Action), f.method = m → f.locked = none → f.entered = [] → (doReturn e (T.setTop f) acts (some (.int z))).1 = T.setFrames fs) :
    Steps p.tables e below (T.setTop (mkF m pc Ls (.int z :: rest))) (T.setFrames fs) :=
  retOut X hx hret rfl (Or.inl ⟨rfl, Or.inl rfl, z, rfl⟩) hd hl
theorem own_retL (X : Stand p l e R s m args below meth c T locs cells slots) (hx : p.tables.exec = Jvm.exec) {pc : Nat} {Ls : Array Slot} {z : Int64} {rest : List Value} (hret : meth.sig.returnType = some .long)
    (hd : decode c.code pc = .ok (.lreturn, 1)) {fs : List Frame} (hl : ∀ (f : JFrame) (acts : List Action), f.method = m → f.locked = none → f.entered = [] → (doReturn e (T.setTop f) acts (some (.long z))).1 = T.setFrames fs) :
    Steps p.tables e below (T.setTop (mkF m pc Ls (.long z :: rest))) (T.setFrames fs) :=
  retOut X hx hret rfl (Or.inr (Or.inl ⟨rfl, rfl, z, rfl⟩)) hd hl
theorem own_go {tb : Tables} {e : Env} {below : List Frame} {A A' : State} {P : State → Outcome → Prop} (st : ∀ t, Steps tb e below A' t → Steps tb e below A t) (h : ∃ s₂ o, Steps tb e below A' s₂ ∧ P s₂ o) : ∃ s₂ o, Steps tb e below A s₂ ∧ P s₂ o :=
  let ⟨s₂, o, h1, h2⟩ := h
  ⟨s₂, o, st _ h1, h2⟩
theorem own_fld_inj {Z : State} {h : Heap} {a : Addr} {C n d : String} {v w : Value} (F : Fld Z h a C n d v) (G : Fld Z h a C n d w) : v = w := by
  obtain ⟨c1, cf1, k1, i1, f1, p1, p2, -, -, -, -, p5⟩ := F
  obtain ⟨c2, cf2, k2, i2, f2, q1, q2, -, -, -, -, q5⟩ := G
  rw [p1] at q1; cases q1
  rw [p2] at q2; cases q2
  have := p5.symm.trans q5
  simpa using this
theorem own_fld_ne {Z : State} {h : Heap} {a b : Addr} {C n d : String} {i j : Int32} (F : Fld Z h a C n d (.int i)) (G : Fld Z h b C n d (.int j)) (hij : ¬ i = j) : ¬ a = b := fun q => by
  subst q
  exact hij (Value.int.inj (own_fld_inj F G))
theorem own_keep_ext {h h' : Heap} (K : Keep h h' []) : Ext h h' := ⟨K.1, fun a c q => K.2.1 a c q nin0⟩
theorem own_sta_keep {Z : State} {h h' : Heap} {C n d K : String} {v : Value} {a : Addr} (F : Sta Z h C n d v) (k : Keep h h' [a]) (E : Exa Z h a K) : Sta Z h' C n d v := by
  obtain ⟨cf, i, kk, f, st, cell, h1, h2, h3, h4, h5, h6, h7⟩ := F
  refine ⟨cf, i, kk, f, st, cell, h1, h2, h3, h4, k.2.1 _ _ h5 (ninS (fun q => ?_) nin0), h6, h7⟩
  obtain ⟨cell', k', g1, -, -, g4, -⟩ := E
  subst q
  cases h5.symm.trans g1
  rw [h6] at g4; cases g4
theorem own_ext_trans {h h' h'' : Heap} (E : Ext h h') (F : Ext h' h'') : Ext h h'' := ⟨Nat.le_trans E.1 F.1, fun a c q => F.2 a c (E.2 a c q)⟩
theorem own_ext_keep {h h' h'' : Heap} {ws : List Addr} (E : Ext h h') (K : Keep h' h'' ws) (q : ∀ x ∈ ws, h.size ≤ x) : Ext h h'' :=
  ⟨Nat.le_trans E.1 K.1, fun a c r => K.2.1 a c (E.2 a c r) fun z => absurd (Array.getElem?_eq_some_iff.mp r).1 (Nat.not_lt.mpr (q a z))⟩
theorem own_ext_wr {h h' h'' : Heap} {b : Addr} {sl : Nat} {v : Value} (E : Ext h h') (W : Wr h' h'' b sl v) (q : h.size ≤ b) : Ext h h'' :=
  own_ext_keep E (Keep.of_wr W) fun x hx => by cases List.mem_singleton.mp hx; exact q
end New
end Jvm.RoadKit
namespace Jvm.Pilot.@@N@@
open Jvm Jvm.ClassFile Sem Op Lib Jvm.Free Jvm.Stand Jvm.LawKit Jvm.RoadKit Bundle Jvm.Pilot.@@N@@.Jvm.D
def mxL (a b : Int64) : Int64 := if lcmpW a b < (0 : Int32) then b else a
def mnL (a b : Int64) : Int64 := if (0 : Int32) < lcmpW a b then b else a
def alN (m c : Int64) : Int32 := if lcmpW c m < (0 : Int32) then 0 else 1
def alM (m x c : Int64) : Int32 := if lcmpW c m < (0 : Int32) then 0 else if (0 : Int32) < lcmpW c x then 0 else 1
theorem own_l (a b : Int64) : (lcmpW a b < (0 : Int32) ↔ a.toInt < b.toInt) ∧ ((0 : Int32) < lcmpW a b ↔ b.toInt < a.toInt) ∧ (lcmpW a b = (0 : Int32) ↔ a.toInt = b.toInt) := by
  refine ⟨(lw_lt a b).trans Int64.lt_iff_toInt_lt, (lw_gt a b).trans Int64.lt_iff_toInt_lt, (lw_eq a b).trans Int64.toInt_inj.symm⟩
theorem own_mx (a b : Int64) : (mxL a b).toInt = (if a.toInt < b.toInt then b.toInt else a.toInt) := by
  unfold mxL
  by_cases h : a.toInt < b.toInt
  · rw [if_pos ((own_l a b).1.mpr h), if_pos h]
  · rw [if_neg (fun q => h ((own_l a b).1.mp q)), if_neg h]
theorem own_mn (a b : Int64) : (mnL a b).toInt = (if b.toInt < a.toInt then b.toInt else a.toInt) := by
  unfold mnL
  by_cases h : b.toInt < a.toInt
  · rw [if_pos ((own_l a b).2.1.mpr h), if_pos h]
  · rw [if_neg (fun q => h ((own_l a b).2.1.mp q)), if_neg h]
theorem own_cl (m x c : Int64) (h : ¬ (0 : Int32) < lcmpW m x) : lcmpW (mnL (mxL c m) x) c = (0 : Int32) ↔ m.toInt ≤ c.toInt ∧ c.toInt ≤ x.toInt := by
  rw [(own_l m x).2.1] at h
  rw [(own_l _ c).2.2, own_mn, own_mx]
  by_cases h1 : c.toInt < m.toInt
  · rw [if_pos h1]
    by_cases h2 : x.toInt < m.toInt
    · rw [if_pos h2]; omega
    · rw [if_neg h2]; omega
  · rw [if_neg h1]
    by_cases h2 : x.toInt < c.toInt
    · rw [if_pos h2]; omega
    · rw [if_neg h2]; omega
theorem own_alM (m x c : Int64) : alM m x c = (if m.toInt ≤ c.toInt ∧ c.toInt ≤ x.toInt then 1 else 0) := by
  unfold alM
  by_cases h1 : c.toInt < m.toInt
  · rw [if_pos ((own_l c m).1.mpr h1), if_neg (by omega)]
  · rw [if_neg (fun q => h1 ((own_l c m).1.mp q))]
    by_cases h2 : x.toInt < c.toInt
    · rw [if_pos ((own_l c x).2.1.mpr h2), if_neg (by omega)]
    · rw [if_neg (fun q => h2 ((own_l c x).2.1.mp q)), if_pos (by omega)]
theorem own_alN (m c : Int64) : alN m c = alM m 9223372036854775807 c := by
  rw [own_alM]
  have e : (9223372036854775807 : Int64).toInt = 9223372036854775807 := by decide
  have r := rng64 c
  rw [e]
  unfold alN
  by_cases h1 : c.toInt < m.toInt
  · rw [if_pos ((own_l c m).1.mpr h1), if_neg (by omega)]
  · rw [if_neg (fun q => h1 ((own_l c m).1.mp q)), if_pos (by omega)]
theorem own_A {m x : Int64} (c : Int64) (h : (0 : Int32) < lcmpW m x) : alM m x c = 0 := by
  rw [(own_l m x).2.1] at h
  rw [own_alM, if_neg (by omega)]
theorem own_B {m x c : Int64} (h : ¬ (0 : Int32) < lcmpW m x) (q : lcmpW (mnL (mxL c m) x) c = (0 : Int32)) : alM m x c = 1 := by
  rw [own_alM, if_pos ((own_cl m x c h).mp q)]
theorem own_C {m x c : Int64} (h : ¬ (0 : Int32) < lcmpW m x) (q : ¬ lcmpW (mnL (mxL c m) x) c = (0 : Int32)) : alM m x c = 0 := by
  rw [own_alM, if_neg (fun r => q ((own_cl m x c h).mpr r))]
theorem own_cache {Z : State} {args : Array Value} {wC : Addr} {clC : Cell} (ev : (Term.static "java/lang/Long$LongCache" "cache" "[Ljava/lang/Long;").eval args Z none [] Z = some (.ref wC)) (A : Arr Z Z.heap wC clC (.object "java/lang/Long"))
    (h4 : (Jvm.Cond.eq (Term.length (Term.static "java/lang/Long$LongCache" "cache" "[Ljava/lang/Long;")) (Term.int (256 : Int32))).value args Z none Z [] = some true)
    (h5 : (Jvm.Cond.all (Term.static "java/lang/Long$LongCache" "cache" "[Ljava/lang/Long;") (Jvm.Cond.and (Jvm.Cond.exactly (Term.elem (Term.static "java/lang/Long$LongCache" "cache" "[Ljava/lang/Long;") (Term.index 0)) "java/lang/Long") (Jvm.Cond.eq (Term.field (Term.elem (Term.static "java/lang/Long$LongCache" "cache" "[Ljava/lang/Long;") (Term.index 0)) "java/lang/Long" "value" "J") (Term.op1 Unary.i2l (Term.sub (Term.index 0) (Term.int (128 : Int32))))))).value args Z none Z [] = some true) :
    clC.slots.size = 256 ∧ ∀ j : Nat, j < 256 → ∃ b : Addr, clC.slots[j]? = some (.ref b) ∧ Exa Z Z.heap b "java/lang/Long" ∧ Fld Z Z.heap b "java/lang/Long" "value" "J" (.long ((j.toInt32 - 128).toInt64)) := by
  have hat := IntBox.arrayAt_of A.1 A.2.1 A.2.2
  obtain ⟨hsz, hsize⟩ := IntBox.length_fwd (Cond.before_iff.mpr h4) ev A.1 A.2.1 A.2.2
  have h256 : clC.slots.size = 256 := by
    have e := len_toInt hsz
    rw [hsize, show (256 : Int32).toInt = 256 from by decide] at e
    omega
  refine ⟨h256, fun j hj => ?_⟩
  have hj' := Cond.all_elim ev hat (show _ from h5) j (by rw [h256]; exact hj)
  obtain ⟨hex, heq⟩ := and_e hj'
  obtain ⟨hnn, hback⟩ := IntBox.place_nonneg j hj
  have evj : (Term.static "java/lang/Long$LongCache" "cache" "[Ljava/lang/Long;").eval args Z none [j] Z = some (.ref wC) := ev
  have evE : (Term.elem (Term.static "java/lang/Long$LongCache" "cache" "[Ljava/lang/Long;") (Term.index 0)).eval args Z none [j] Z = clC.slots[j]? := by
    rw [elem_f evj (show (Term.index 0).eval args Z none [j] Z = some (.int j.toInt32) from rfl) hat hnn, hback]
  obtain ⟨b, c, cell, k, e1, e2, e3, e4, e5, e6, e7⟩ := Cond.exactly_spec (show Jvm.Cond.holds args Z none Z [j] _ = true from by rw [Jvm.Cond.holds, hex]; rfl)
  have ef : (Term.field (Term.elem (Term.static "java/lang/Long$LongCache" "cache" "[Ljava/lang/Long;") (Term.index 0)) "java/lang/Long" "value" "J").eval args Z none [j] Z = some (.long ((j.toInt32 - 128).toInt64)) := by
    have eu : (Term.op1 Unary.i2l (Term.sub (Term.index 0) (Term.int (128 : Int32)))).eval args Z none [j] Z = some (.long ((j.toInt32 - 128).toInt64)) := rfl
    generalize (Term.field (Term.elem (Term.static "java/lang/Long$LongCache" "cache" "[Ljava/lang/Long;") (Term.index 0)) "java/lang/Long" "value" "J") = tf at heq ⊢
    generalize (Term.op1 Unary.i2l (Term.sub (Term.index 0) (Term.int (128 : Int32)))) = tu at heq eu
    cases ht : tf.eval args Z none [j] Z with
    | none => simp [Cond.value, ht, eu] at heq
    | some x => cases x <;> simp [Cond.value, ht, eu] at heq; subst heq; rfl
  rw [fld_at e1] at ef
  rw [evE] at e1
  subst e6
  exact ⟨b, e1, ⟨cell, k, e3, e2, e4, e5, e7⟩, Fld.start ef⟩
theorem d8_0 : decode jdk_29_method_66_code 0 = .ok (.lload_n 0, 1) := by decide +kernel
theorem d8_1 : decode jdk_29_method_66_code 1 = .ok (.lload_n 2, 1) := by decide +kernel
theorem d8_2 : decode jdk_29_method_66_code 2 = .ok (.lcmp, 1) := by decide +kernel
theorem d8_3 : decode jdk_29_method_66_code 3 = .ok (.ifCond .lt 7, 3) := by decide +kernel
theorem d8_6 : decode jdk_29_method_66_code 6 = .ok (.lload_n 0, 1) := by decide +kernel
theorem d8_7 : decode jdk_29_method_66_code 7 = .ok (.goto 4, 3) := by decide +kernel
theorem d8_10 : decode jdk_29_method_66_code 10 = .ok (.lload_n 2, 1) := by decide +kernel
theorem d8_11 : decode jdk_29_method_66_code 11 = .ok (.lreturn, 1) := by decide +kernel
theorem ef_8 (m : MethodId) (q0 : Int64) (q1 : Int64) : entryFrame m #[(.long q0), (.long q1)] 4 = mkF m 0 #[.val (.long q0), .second, .val (.long q1), .second] [] := by first | (simp [entryFrame, mkF, argsToLocals, Value.category]; done) | rfl
def Q8 (Z : State) (q0 : Int64) (q1 : Int64)  (h0 : Heap) (n0 : Nat) (v : Option Value) (h : Heap) (L : List Loc) : Prop := v = some (.long (mxL q0 q1)) ∧ Fr n0 L ∧ h = h0
set_option maxRecDepth 65536 in
set_option maxHeartbeats 40000000 in
theorem rm8 (l : Launch) (Z : State) (a0 : Array Value) (hw : ∀ d ∈ tables_1, d.before a0 Z = true) (ws : List Jvm.Cond) (q0 : Int64) (q1 : Int64)  (h0 : Heap) (n0 : Nat) (Z0 : n0 ≤ h0.size)  :
    MetFree l (⟨"java/lang/Math", "max", "(JJ)J"⟩ : MethodName) (head1 (Jvm.Cond.code (⟨"java/lang/Math", "max", "(JJ)J"⟩ : MethodName) jdk_29_method_66_code 4 (some .long) :: ws) ({ frames := 0, cells := 0, slots := 0, locals := 0 } : Room)) (fun a U => a = #[(.long q0), (.long q1)] ∧ Z.Warmed39 U.vm ∧ U.heap = h0) (fun _ _ _ _ _ => True) (fun _ U o U' => ∃ v L, o = .returned v ∧ Q8 Z q0 q1 h0 n0 v U'.heap L ∧ FrameEnd U o U' L ({ frames := 0, cells := 0, slots := 0, locals := 0 } : Room).cells ({ frames := 0, cells := 0, slots := 0, locals := 0 } : Room).slots) := by
  refine MetFree.of_bodySF (Jvm.Free.JP.mathPlain rfl (by decide +kernel)) hisR ?_
  intro p e s m args below meth c s₁ Bd hml0 hP hK
  obtain ⟨rfl, hZ, hh⟩ := hP
  have hx := Bd.exec
  have hlk : meth.locks = false := BodyLoose.notSynchronized Bd
  have hby := Bd.bytes
  have hml : c.maxLocals = 4 := hml0
  have hown : s.vm.findClass "java/lang/Math" = some m.cls := findClass_of_methodNamed Bd.named
  have hnm := (name_of_methodNamed Bd.named Bd.method).1
  have X0 : Stand p l e ({ frames := 0, cells := 0, slots := 0, locals := 0 } : Room) s m #[(.long q0), (.long q1)] below meth c s₁ [] 0 0 := Stand.of_body Bd
  have e0 : s₁.heap = h0 := by rw [← hh, Bd.state]; rfl
  have N0 := Fr.nil n0
  refine own_go (A' := (s₁.setTop (mkF m 0 #[.val (.long q0), .second, .val (.long q1), .second] []))) (fun t k => castTop (ef_8 m q0 q1) k) ?_
  refine own_go (A' := (s₁.setTop (mkF m 3 #[.val (.long q0), .second, .val (.long q1), .second] [(.int (lcmpW q0 q1))]))) (fun t k => ?_) ?_
  · show Steps p.tables e below (s₁.setTop (mkF m 0 #[.val (.long q0), .second, .val (.long q1), .second] [])) _
    refine XS.lloadN X0.here hx rfl (hb hby d8_0) rfl ?_
    show Steps p.tables e below (s₁.setTop (mkF m 1 #[.val (.long q0), .second, .val (.long q1), .second] [(.long q0)])) _
    refine XS.lloadN X0.here hx rfl (hb hby d8_1) rfl ?_
    show Steps p.tables e below (s₁.setTop (mkF m 2 #[.val (.long q0), .second, .val (.long q1), .second] [(.long q1), (.long q0)])) _
    refine XS.lcmp X0.here hx rfl (hb hby d8_2) rfl ?_
    exact k
  by_cases hc1 : (lcmpW q0 q1) < (0 : Int32)
  · -- hc1: yes
    refine own_go (A' := (s₁.setTop (mkF m 10 #[.val (.long q0), .second, .val (.long q1), .second] []))) (fun t k => XS.ifYes X0.here hx rfl (pc0 := 3) (pc' := 10) rfl (hb hby d8_3) rfl ((if0 _ _).trans (tlt hc1).1) (by decide) (by decide) k) ?_
    refine own_go (A' := (s₁.setTop (mkF m 11 #[.val (.long q0), .second, .val (.long q1), .second] [(.long q1)]))) (fun t k => ?_) ?_
    · show Steps p.tables e below (s₁.setTop (mkF m 10 #[.val (.long q0), .second, .val (.long q1), .second] [])) _
      refine XS.lloadN X0.here hx rfl (hb hby d8_10) rfl ?_
      exact k
    obtain ⟨fs, hr, hrun, hended, hW, hsame⟩ := X0.leave (v := some (.long q1)) (fun h => by rw [Bd.returns] at h; cases h) hlk
    refine ⟨_, _, ?_, hrun, hended, _, _, rfl, ?_, ⟨_, rfl⟩, hW, hsame.mono (by decide) (by decide)⟩
    · show Steps p.tables e below (s₁.setTop (mkF m 11 #[.val (.long q0), .second, .val (.long q1), .second] [(.long q1)])) _
      exact own_retL X0 hx Bd.returns (hb hby d8_11) hr
    · show Q8 Z q0 q1 h0 n0 _ s₁.heap _
      exact ⟨(by rw [mxL, if_pos hc1]), N0, e0⟩
  · -- hc1: no
    refine own_go (A' := (s₁.setTop (mkF m 6 #[.val (.long q0), .second, .val (.long q1), .second] []))) (fun t k => XS.ifNo X0.here hx rfl (hb hby d8_3) rfl ((if0 _ _).trans (flt hc1).1) k) ?_
    refine own_go (A' := (s₁.setTop (mkF m 11 #[.val (.long q0), .second, .val (.long q1), .second] [(.long q0)]))) (fun t k => ?_) ?_
    · show Steps p.tables e below (s₁.setTop (mkF m 6 #[.val (.long q0), .second, .val (.long q1), .second] [])) _
      refine XS.lloadN X0.here hx rfl (hb hby d8_6) rfl ?_
      show Steps p.tables e below (s₁.setTop (mkF m 7 #[.val (.long q0), .second, .val (.long q1), .second] [(.long q0)])) _
      refine XS.goto X0.here hx rfl (pc0 := 7) (pc' := 11) rfl (hb hby d8_7) (by decide) (by decide) ?_
      exact k
    obtain ⟨fs, hr, hrun, hended, hW, hsame⟩ := X0.leave (v := some (.long q0)) (fun h => by rw [Bd.returns] at h; cases h) hlk
    refine ⟨_, _, ?_, hrun, hended, _, _, rfl, ?_, ⟨_, rfl⟩, hW, hsame.mono (by decide) (by decide)⟩
    · show Steps p.tables e below (s₁.setTop (mkF m 11 #[.val (.long q0), .second, .val (.long q1), .second] [(.long q0)])) _
      exact own_retL X0 hx Bd.returns (hb hby d8_11) hr
    · show Q8 Z q0 q1 h0 n0 _ s₁.heap _
      exact ⟨(by rw [mxL, if_neg hc1]), N0, e0⟩
theorem d9_0 : decode jdk_29_method_70_code 0 = .ok (.lload_n 0, 1) := by decide +kernel
theorem d9_1 : decode jdk_29_method_70_code 1 = .ok (.lload_n 2, 1) := by decide +kernel
theorem d9_2 : decode jdk_29_method_70_code 2 = .ok (.lcmp, 1) := by decide +kernel
theorem d9_3 : decode jdk_29_method_70_code 3 = .ok (.ifCond .gt 7, 3) := by decide +kernel
theorem d9_6 : decode jdk_29_method_70_code 6 = .ok (.lload_n 0, 1) := by decide +kernel
theorem d9_7 : decode jdk_29_method_70_code 7 = .ok (.goto 4, 3) := by decide +kernel
theorem d9_10 : decode jdk_29_method_70_code 10 = .ok (.lload_n 2, 1) := by decide +kernel
theorem d9_11 : decode jdk_29_method_70_code 11 = .ok (.lreturn, 1) := by decide +kernel
theorem ef_9 (m : MethodId) (q0 : Int64) (q1 : Int64) : entryFrame m #[(.long q0), (.long q1)] 4 = mkF m 0 #[.val (.long q0), .second, .val (.long q1), .second] [] := by first | (simp [entryFrame, mkF, argsToLocals, Value.category]; done) | rfl
def Q9 (Z : State) (q0 : Int64) (q1 : Int64)  (h0 : Heap) (n0 : Nat) (v : Option Value) (h : Heap) (L : List Loc) : Prop := v = some (.long (mnL q0 q1)) ∧ Fr n0 L ∧ h = h0
set_option maxRecDepth 65536 in
set_option maxHeartbeats 40000000 in
theorem rm9 (l : Launch) (Z : State) (a0 : Array Value) (hw : ∀ d ∈ tables_1, d.before a0 Z = true) (ws : List Jvm.Cond) (q0 : Int64) (q1 : Int64)  (h0 : Heap) (n0 : Nat) (Z0 : n0 ≤ h0.size)  :
    MetFree l (⟨"java/lang/Math", "min", "(JJ)J"⟩ : MethodName) (head1 (Jvm.Cond.code (⟨"java/lang/Math", "min", "(JJ)J"⟩ : MethodName) jdk_29_method_70_code 4 (some .long) :: ws) ({ frames := 0, cells := 0, slots := 0, locals := 0 } : Room)) (fun a U => a = #[(.long q0), (.long q1)] ∧ Z.Warmed39 U.vm ∧ U.heap = h0) (fun _ _ _ _ _ => True) (fun _ U o U' => ∃ v L, o = .returned v ∧ Q9 Z q0 q1 h0 n0 v U'.heap L ∧ FrameEnd U o U' L ({ frames := 0, cells := 0, slots := 0, locals := 0 } : Room).cells ({ frames := 0, cells := 0, slots := 0, locals := 0 } : Room).slots) := by
  refine MetFree.of_bodySF (Jvm.Free.JP.mathPlain rfl (by decide +kernel)) hisR ?_
  intro p e s m args below meth c s₁ Bd hml0 hP hK
  obtain ⟨rfl, hZ, hh⟩ := hP
  have hx := Bd.exec
  have hlk : meth.locks = false := BodyLoose.notSynchronized Bd
  have hby := Bd.bytes
  have hml : c.maxLocals = 4 := hml0
  have hown : s.vm.findClass "java/lang/Math" = some m.cls := findClass_of_methodNamed Bd.named
  have hnm := (name_of_methodNamed Bd.named Bd.method).1
  have X0 : Stand p l e ({ frames := 0, cells := 0, slots := 0, locals := 0 } : Room) s m #[(.long q0), (.long q1)] below meth c s₁ [] 0 0 := Stand.of_body Bd
  have e0 : s₁.heap = h0 := by rw [← hh, Bd.state]; rfl
  have N0 := Fr.nil n0
  refine own_go (A' := (s₁.setTop (mkF m 0 #[.val (.long q0), .second, .val (.long q1), .second] []))) (fun t k => castTop (ef_9 m q0 q1) k) ?_
  refine own_go (A' := (s₁.setTop (mkF m 3 #[.val (.long q0), .second, .val (.long q1), .second] [(.int (lcmpW q0 q1))]))) (fun t k => ?_) ?_
  · show Steps p.tables e below (s₁.setTop (mkF m 0 #[.val (.long q0), .second, .val (.long q1), .second] [])) _
    refine XS.lloadN X0.here hx rfl (hb hby d9_0) rfl ?_
    show Steps p.tables e below (s₁.setTop (mkF m 1 #[.val (.long q0), .second, .val (.long q1), .second] [(.long q0)])) _
    refine XS.lloadN X0.here hx rfl (hb hby d9_1) rfl ?_
    show Steps p.tables e below (s₁.setTop (mkF m 2 #[.val (.long q0), .second, .val (.long q1), .second] [(.long q1), (.long q0)])) _
    refine XS.lcmp X0.here hx rfl (hb hby d9_2) rfl ?_
    exact k
  by_cases hc2 : (0 : Int32) < (lcmpW q0 q1)
  · -- hc2: yes
    refine own_go (A' := (s₁.setTop (mkF m 10 #[.val (.long q0), .second, .val (.long q1), .second] []))) (fun t k => XS.ifYes X0.here hx rfl (pc0 := 3) (pc' := 10) rfl (hb hby d9_3) rfl ((if0 _ _).trans (tlt hc2).2.2.1) (by decide) (by decide) k) ?_
    refine own_go (A' := (s₁.setTop (mkF m 11 #[.val (.long q0), .second, .val (.long q1), .second] [(.long q1)]))) (fun t k => ?_) ?_
    · show Steps p.tables e below (s₁.setTop (mkF m 10 #[.val (.long q0), .second, .val (.long q1), .second] [])) _
      refine XS.lloadN X0.here hx rfl (hb hby d9_10) rfl ?_
      exact k
    obtain ⟨fs, hr, hrun, hended, hW, hsame⟩ := X0.leave (v := some (.long q1)) (fun h => by rw [Bd.returns] at h; cases h) hlk
    refine ⟨_, _, ?_, hrun, hended, _, _, rfl, ?_, ⟨_, rfl⟩, hW, hsame.mono (by decide) (by decide)⟩
    · show Steps p.tables e below (s₁.setTop (mkF m 11 #[.val (.long q0), .second, .val (.long q1), .second] [(.long q1)])) _
      exact own_retL X0 hx Bd.returns (hb hby d9_11) hr
    · show Q9 Z q0 q1 h0 n0 _ s₁.heap _
      exact ⟨(by rw [mnL, if_pos hc2]), N0, e0⟩
  · -- hc2: no
    refine own_go (A' := (s₁.setTop (mkF m 6 #[.val (.long q0), .second, .val (.long q1), .second] []))) (fun t k => XS.ifNo X0.here hx rfl (hb hby d9_3) rfl ((if0 _ _).trans (flt hc2).2.2.1) k) ?_
    refine own_go (A' := (s₁.setTop (mkF m 11 #[.val (.long q0), .second, .val (.long q1), .second] [(.long q0)]))) (fun t k => ?_) ?_
    · show Steps p.tables e below (s₁.setTop (mkF m 6 #[.val (.long q0), .second, .val (.long q1), .second] [])) _
      refine XS.lloadN X0.here hx rfl (hb hby d9_6) rfl ?_
      show Steps p.tables e below (s₁.setTop (mkF m 7 #[.val (.long q0), .second, .val (.long q1), .second] [(.long q0)])) _
      refine XS.goto X0.here hx rfl (pc0 := 7) (pc' := 11) rfl (hb hby d9_7) (by decide) (by decide) ?_
      exact k
    obtain ⟨fs, hr, hrun, hended, hW, hsame⟩ := X0.leave (v := some (.long q0)) (fun h => by rw [Bd.returns] at h; cases h) hlk
    refine ⟨_, _, ?_, hrun, hended, _, _, rfl, ?_, ⟨_, rfl⟩, hW, hsame.mono (by decide) (by decide)⟩
    · show Steps p.tables e below (s₁.setTop (mkF m 11 #[.val (.long q0), .second, .val (.long q1), .second] [(.long q0)])) _
      exact own_retL X0 hx Bd.returns (hb hby d9_11) hr
    · show Q9 Z q0 q1 h0 n0 _ s₁.heap _
      exact ⟨(by rw [mnL, if_neg hc2]), N0, e0⟩
theorem d6_0 : decode jdk_18_method_1_code 0 = .ok (.aload_n 0, 1) := by decide +kernel
theorem d6_1 : decode jdk_18_method_1_code 1 = .ok (.invokespecial 1, 3) := by decide +kernel
theorem d6_4 : decode jdk_18_method_1_code 4 = .ok (.return_, 1) := by decide +kernel
theorem pn_6 : plainName "java/lang/Number" = true := by first | (simp [plainName, overriddenIn]; done) | decide +kernel
theorem ef_6 (m : MethodId) (r0 : Addr) : entryFrame m #[(.ref r0)] 1 = mkF m 0 #[.val (.ref r0)] [] := by first | (simp [entryFrame, mkF, argsToLocals, Value.category]; done) | rfl
def Q6 (Z : State) (r0 : Addr)  (h0 : Heap) (n0 : Nat) (v : Option Value) (h : Heap) (L : List Loc) : Prop := v = none ∧ Fr n0 L ∧ h = h0
set_option maxRecDepth 65536 in
set_option maxHeartbeats 40000000 in
theorem rm6 (l : Launch) (Z : State) (a0 : Array Value) (hw : ∀ d ∈ tables_1, d.before a0 Z = true) (ws : List Jvm.Cond) (r0 : Addr)  (h0 : Heap) (n0 : Nat) (Z0 : n0 ≤ h0.size)  :
    MetFree l (⟨"java/lang/Number", "<init>", "()V"⟩ : MethodName) (head1 (Jvm.Cond.code (⟨"java/lang/Number", "<init>", "()V"⟩ : MethodName) jdk_18_method_1_code 1 none :: ws) ({ frames := 1, cells := 0, slots := 0, locals := 12 } : Room)) (fun a U => a = #[(.ref r0)] ∧ Z.Warmed39 U.vm ∧ U.heap = h0) (fun _ _ _ _ _ => True) (fun _ U o U' => ∃ v L, o = .returned v ∧ Q6 Z r0 h0 n0 v U'.heap L ∧ FrameEnd U o U' L ({ frames := 1, cells := 0, slots := 0, locals := 12 } : Room).cells ({ frames := 1, cells := 0, slots := 0, locals := 12 } : Room).slots) := by
  refine MetFree.of_bodySF (plainFor_of_name pn_6) hisR ?_
  intro p e s m args below meth c s₁ Bd hml0 hP hK
  obtain ⟨rfl, hZ, hh⟩ := hP
  have hx := Bd.exec
  have hlk : meth.locks = false := BodyLoose.notSynchronized Bd
  have hby := Bd.bytes
  have hml : c.maxLocals = 1 := hml0
  have hown : s.vm.findClass "java/lang/Number" = some m.cls := findClass_of_methodNamed Bd.named
  have hnm := (name_of_methodNamed Bd.named Bd.method).1
  have X0 : Stand p l e ({ frames := 1, cells := 0, slots := 0, locals := 12 } : Room) s m #[(.ref r0)] below meth c s₁ [] 0 0 := Stand.of_body Bd
  have e0 : s₁.heap = h0 := by rw [← hh, Bd.state]; rfl
  have N0 := Fr.nil n0
  refine own_go (A' := (s₁.setTop (mkF m 0 #[.val (.ref r0)] []))) (fun t k => castTop (ef_6 m r0) k) ?_
  obtain ⟨T3, X3, e3, st3⟩ := initO X0 hx hZ hown (hw _ (List.mem_of_getElem? (i := 39) rfl)) (hw _ (List.mem_of_getElem? (i := 16) rfl)) (hw _ (List.mem_of_getElem? (i := 17) rfl)) e0 (g := (mkF m 1 #[.val (.ref r0)] [(.ref r0)])) rfl (by rw [hml]; rfl) rfl (hb hby d6_1) (by decide) (W := 0) (by show 2 * 0 + _ ≤ _; exact Nat.le_of_eq rfl) (by decide)
  refine own_go (A' := (T3.setTop (mkF m 4 #[.val (.ref r0)] []))) (fun t k => ?_) ?_
  · show Steps p.tables e below (s₁.setTop (mkF m 0 #[.val (.ref r0)] [])) _
    refine XS.aloadN X0.here hx rfl (hb hby d6_0) rfl rfl ?_
    show Steps p.tables e below (s₁.setTop (mkF m 1 #[.val (.ref r0)] [(.ref r0)])) _
    refine st3 _ ?_
    exact k
  obtain ⟨fs, hr, hrun, hended, hW, hsame⟩ := X3.leave (v := none) (fun _ => rfl) hlk
  refine ⟨_, _, ?_, hrun, hended, _, _, rfl, ?_, ⟨_, rfl⟩, hW, hsame.mono (by decide) (by decide)⟩
  · show Steps p.tables e below (T3.setTop (mkF m 4 #[.val (.ref r0)] [])) _
    exact X3.returnOut hx Bd.returns (hb hby d6_4) hr
  · show Q6 Z r0 h0 n0 _ T3.heap _
    exact ⟨rfl, N0, e3⟩
theorem pd_0 : parseMethodDescriptor "()V" = some ⟨[], none⟩ := by decide +kernel
theorem d5_0 : decode jdk_35_method_26_code 0 = .ok (.aload_n 0, 1) := by decide +kernel
theorem d5_1 : decode jdk_35_method_26_code 1 = .ok (.invokespecial 270, 3) := by decide +kernel
theorem d5_4 : decode jdk_35_method_26_code 4 = .ok (.aload_n 0, 1) := by decide +kernel
theorem d5_5 : decode jdk_35_method_26_code 5 = .ok (.lload_n 1, 1) := by decide +kernel
theorem d5_6 : decode jdk_35_method_26_code 6 = .ok (.putfield 273, 3) := by decide +kernel
theorem d5_9 : decode jdk_35_method_26_code 9 = .ok (.return_, 1) := by decide +kernel
theorem pn_5 : plainName "java/lang/Long" = true := by first | (simp [plainName, overriddenIn]; done) | decide +kernel
theorem ef_5 (m : MethodId) (r0 : Addr) (q1 : Int64) : entryFrame m #[(.ref r0), (.long q1)] 3 = mkF m 0 #[.val (.ref r0), .val (.long q1), .second] [] := by first | (simp [entryFrame, mkF, argsToLocals, Value.category]; done) | rfl
def Q5 (Z : State) (r0 : Addr) (q1 : Int64)  (h0 : Heap) (n0 : Nat) (v : Option Value) (h : Heap) (L : List Loc) : Prop := v = none ∧ Fr n0 L ∧ Keep h0 h [r0] ∧ Exa Z h r0 "java/lang/Long" ∧ Fld Z h r0 "java/lang/Long" "value" "J" (.long q1)
set_option maxRecDepth 65536 in
set_option maxHeartbeats 40000000 in
theorem rm5 (l : Launch) (Z : State) (a0 : Array Value) (hw : ∀ d ∈ tables_1, d.before a0 Z = true) (ws : List Jvm.Cond) (r0 : Addr) (q1 : Int64)  (h0 : Heap) (n0 : Nat) (Z0 : n0 ≤ h0.size) (E0_r0 : Exa Z h0 r0 "java/lang/Long") (F0_value : Fld Z h0 r0 "java/lang/Long" "value" "J" (.long (0 : Int64))) (g_r0 : n0 ≤ r0) :
    MetFree l (⟨"java/lang/Long", "<init>", "(J)V"⟩ : MethodName) (head1 (Jvm.Cond.code (⟨"java/lang/Long", "<init>", "(J)V"⟩ : MethodName) jdk_35_method_26_code 3 none :: ws) ({ frames := 2, cells := 0, slots := 0, locals := 24 } : Room)) (fun a U => a = #[(.ref r0), (.long q1)] ∧ Z.Warmed39 U.vm ∧ U.heap = h0) (fun _ _ _ _ _ => True) (fun _ U o U' => ∃ v L, o = .returned v ∧ Q5 Z r0 q1 h0 n0 v U'.heap L ∧ FrameEnd U o U' L ({ frames := 2, cells := 0, slots := 0, locals := 24 } : Room).cells ({ frames := 2, cells := 0, slots := 0, locals := 24 } : Room).slots) := by
  refine MetFree.of_bodySF (plainFor_of_name pn_5) hisR ?_
  intro p e s m args below meth c s₁ Bd hml0 hP hK
  obtain ⟨rfl, hZ, hh⟩ := hP
  have hx := Bd.exec
  have hlk : meth.locks = false := BodyLoose.notSynchronized Bd
  have hby := Bd.bytes
  have hml : c.maxLocals = 3 := hml0
  have hown : s.vm.findClass "java/lang/Long" = some m.cls := findClass_of_methodNamed Bd.named
  have hnm := (name_of_methodNamed Bd.named Bd.method).1
  have X0 : Stand p l e ({ frames := 2, cells := 0, slots := 0, locals := 24 } : Room) s m #[(.ref r0), (.long q1)] below meth c s₁ [] 0 0 := Stand.of_body Bd
  have e0 : s₁.heap = h0 := by rw [← hh, Bd.state]; rfl
  have N0 := Fr.nil n0
  refine own_go (A' := (s₁.setTop (mkF m 0 #[.val (.ref r0), .val (.long q1), .second] []))) (fun t k => castTop (ef_5 m r0 q1) k) ?_
  obtain ⟨_, _, ⟨T4, L4, k4, n4⟩, -, X4, ⟨Lc4, hQ4, l4, y4, z4⟩, st4⟩ := X0.specialBack hx (y := (⟨"java/lang/Number", "<init>", "()V"⟩ : MethodName)) rfl hown (mvT hZ (hw _ (List.mem_of_getElem? (i := 33) rfl))) (mvT hZ (hw _ (List.mem_of_getElem? (i := 34) rfl))) (mvT hZ (hw _ (List.mem_of_getElem? (i := 38) rfl))) (by decide) (backOf (W := 0) (rm6 l Z a0 hw [] r0  h0 n0 Z0 ) hZ (hw _ (List.mem_of_getElem? (i := 38) rfl)) (hw _ (List.mem_of_getElem? (i := 37) rfl)) (by decide) (by decide)) (g := (mkF m 1 #[.val (.ref r0), .val (.long q1), .second] [(.ref r0)])) rfl (by rw [hml]; rfl) (Steps.refl _) (a := r0) (argsL := []) (rest := []) (lenOf pd_0 rfl) rfl (by show 2 * 0 + _ ≤ _; exact Nat.le_of_eq rfl) (hb hby d5_1) (fun _ _ => ⟨rfl, e0, (by decide : 0 + 0 ≤ _), (by decide : 0 + 0 ≤ _)⟩)
  dsimp only [Pt.U, Pt.locs, Pt.cells, Pt.slots] at X4 l4 y4 z4 st4 hQ4
  subst l4 y4 z4
  obtain ⟨rfl, N4q, e4⟩ := hQ4
  have N4 := Fr.app N0 N4q
  obtain ⟨T5, h5, X5, e5, W5, st5⟩ := putF X4 hx hZ hown (host := "") (Or.inl (hw _ (List.mem_of_getElem? (i := 40) rfl))) Via.refl e4 F0_value E0_r0 (Or.inr ⟨(hw _ (List.mem_of_getElem? (i := 41) rfl)), rfl, hnm⟩) (hw _ (List.mem_of_getElem? (i := 28) rfl)) (ty := .long) (by decide) rfl rfl (g := (mkF m 6 #[.val (.ref r0), .val (.long q1), .second] [(.long q1), (.ref r0)])) rfl rfl (hb hby d5_6)
  have K5 : Keep h0 h5 [r0] := (Keep.refl h0 [r0]).wr W5 (Or.inl (List.mem_of_getElem? (i := 0) rfl))
  have N5 := Fr.snoc X5 N4 g_r0
  refine own_go (A' := (T5.setTop (mkF m 9 #[.val (.ref r0), .val (.long q1), .second] []))) (fun t k => ?_) ?_
  · show Steps p.tables e below (s₁.setTop (mkF m 0 #[.val (.ref r0), .val (.long q1), .second] [])) _
    refine XS.aloadN X0.here hx rfl (hb hby d5_0) rfl rfl ?_
    show Steps p.tables e below (s₁.setTop (mkF m 1 #[.val (.ref r0), .val (.long q1), .second] [(.ref r0)])) _
    refine st4.trans ?_
    show Steps p.tables e below (T4.setTop (mkF m 4 #[.val (.ref r0), .val (.long q1), .second] [])) _
    refine XS.aloadN X4.here hx rfl (hb hby d5_4) rfl rfl ?_
    show Steps p.tables e below (T4.setTop (mkF m 5 #[.val (.ref r0), .val (.long q1), .second] [(.ref r0)])) _
    refine XS.lloadN X4.here hx rfl (hb hby d5_5) rfl ?_
    show Steps p.tables e below (T4.setTop (mkF m 6 #[.val (.ref r0), .val (.long q1), .second] [(.long q1), (.ref r0)])) _
    refine st5 _ ?_
    exact k
  obtain ⟨fs, hr, hrun, hended, hW, hsame⟩ := X5.leave (v := none) (fun _ => rfl) hlk
  refine ⟨_, _, ?_, hrun, hended, _, _, rfl, ?_, ⟨_, rfl⟩, hW, hsame.mono (by decide) (by decide)⟩
  · show Steps p.tables e below (T5.setTop (mkF m 9 #[.val (.ref r0), .val (.long q1), .second] [])) _
    exact X5.returnOut hx Bd.returns (hb hby d5_9) hr
  · show Q5 Z r0 q1 h0 n0 _ T5.heap _
    rw [e5]
    exact ⟨rfl, N5, K5, (E0_r0.wr W5), (F0_value.same W5)⟩
theorem pd_1 : parseMethodDescriptor "(J)V" = some ⟨[.long], none⟩ := by decide +kernel
theorem d1_0 : decode jdk_35_method_24_code 0 = .ok (.sipush 128, 3) := by decide +kernel
theorem d1_3 : decode jdk_35_method_24_code 3 = .ok (.istore_n 2, 1) := by decide +kernel
theorem d1_4 : decode jdk_35_method_24_code 4 = .ok (.lload_n 0, 1) := by decide +kernel
theorem d1_5 : decode jdk_35_method_24_code 5 = .ok (.ldc2_w 230, 3) := by decide +kernel
theorem d1_8 : decode jdk_35_method_24_code 8 = .ok (.lcmp, 1) := by decide +kernel
theorem d1_9 : decode jdk_35_method_24_code 9 = .ok (.ifCond .lt 22, 3) := by decide +kernel
theorem d1_12 : decode jdk_35_method_24_code 12 = .ok (.lload_n 0, 1) := by decide +kernel
theorem d1_13 : decode jdk_35_method_24_code 13 = .ok (.ldc2_w 232, 3) := by decide +kernel
theorem d1_16 : decode jdk_35_method_24_code 16 = .ok (.lcmp, 1) := by decide +kernel
theorem d1_17 : decode jdk_35_method_24_code 17 = .ok (.ifCond .gt 14, 3) := by decide +kernel
theorem d1_20 : decode jdk_35_method_24_code 20 = .ok (.getstatic 234, 3) := by decide +kernel
theorem d1_23 : decode jdk_35_method_24_code 23 = .ok (.lload_n 0, 1) := by decide +kernel
theorem d1_24 : decode jdk_35_method_24_code 24 = .ok (.l2i, 1) := by decide +kernel
theorem d1_25 : decode jdk_35_method_24_code 25 = .ok (.sipush 128, 3) := by decide +kernel
theorem d1_28 : decode jdk_35_method_24_code 28 = .ok (.iadd, 1) := by decide +kernel
theorem d1_29 : decode jdk_35_method_24_code 29 = .ok (.aaload, 1) := by decide +kernel
theorem d1_30 : decode jdk_35_method_24_code 30 = .ok (.areturn, 1) := by decide +kernel
theorem d1_31 : decode jdk_35_method_24_code 31 = .ok (.new 1, 3) := by decide +kernel
theorem d1_34 : decode jdk_35_method_24_code 34 = .ok (.dup, 1) := by decide +kernel
theorem d1_35 : decode jdk_35_method_24_code 35 = .ok (.lload_n 0, 1) := by decide +kernel
theorem d1_36 : decode jdk_35_method_24_code 36 = .ok (.invokespecial 240, 3) := by decide +kernel
theorem d1_39 : decode jdk_35_method_24_code 39 = .ok (.areturn, 1) := by decide +kernel
theorem pn_1 : plainName "java/lang/Long" = true := by first | (simp [plainName, overriddenIn]; done) | decide +kernel
theorem ef_1 (m : MethodId) (q0 : Int64) : entryFrame m #[(.long q0)] 3 = mkF m 0 #[.val (.long q0), .second, .unset] [] := by first | (simp [entryFrame, mkF, argsToLocals, Value.category]; done) | rfl
def Q1 (Z : State) (q0 : Int64) (wC : Addr) (clC : Cell) (h0 : Heap) (n0 : Nat) (v : Option Value) (h : Heap) (L : List Loc) : Prop := ∃ b : Addr, v = some (.ref b) ∧ Fr n0 L ∧ Keep h0 h [] ∧ Exa Z h b "java/lang/Long" ∧ Fld Z h b "java/lang/Long" "value" "J" (.long q0)
set_option maxRecDepth 65536 in
set_option maxHeartbeats 40000000 in
theorem rm1 (l : Launch) (Z : State) (a0 : Array Value) (hw : ∀ d ∈ tables_1, d.before a0 Z = true) (ws : List Jvm.Cond) (q0 : Int64) (wC : Addr) (clC : Cell) (h0 : Heap) (n0 : Nat) (Z0 : n0 ≤ h0.size) (S_cache : Sta Z h0 "java/lang/Long$LongCache" "cache" "[Ljava/lang/Long;" (.ref wC)) (Ar_C : Arr Z h0 wC clC (.object "java/lang/Long")) (L_C : clC.slots.size = 256) (P_C : ∀ j : Nat, j < 256 → ∃ b : Addr, clC.slots[j]? = some (.ref b) ∧ Exa Z h0 b "java/lang/Long" ∧ Fld Z h0 b "java/lang/Long" "value" "J" (.long ((j.toInt32 - 128).toInt64))) :
    MetFree l (⟨"java/lang/Long", "valueOf", "(J)Ljava/lang/Long;"⟩ : MethodName) (head1 (Jvm.Cond.code (⟨"java/lang/Long", "valueOf", "(J)Ljava/lang/Long;"⟩ : MethodName) jdk_35_method_24_code 3 (some (.object "java/lang/Long")) :: ws) ({ frames := 3, cells := 1, slots := 1, locals := 39 } : Room)) (fun a U => a = #[(.long q0)] ∧ Z.Warmed39 U.vm ∧ U.heap = h0) (fun _ _ _ _ _ => True) (fun _ U o U' => ∃ v L, o = .returned v ∧ Q1 Z q0 wC clC h0 n0 v U'.heap L ∧ FrameEnd U o U' L ({ frames := 3, cells := 1, slots := 1, locals := 39 } : Room).cells ({ frames := 3, cells := 1, slots := 1, locals := 39 } : Room).slots) := by
  refine MetFree.of_bodySF (plainFor_of_name pn_1) hisR ?_
  intro p e s m args below meth c s₁ Bd hml0 hP hK
  obtain ⟨rfl, hZ, hh⟩ := hP
  have hx := Bd.exec
  have hlk : meth.locks = false := BodyLoose.notSynchronized Bd
  have hby := Bd.bytes
  have hml : c.maxLocals = 3 := hml0
  have hown : s.vm.findClass "java/lang/Long" = some m.cls := findClass_of_methodNamed Bd.named
  have hnm := (name_of_methodNamed Bd.named Bd.method).1
  have X0 : Stand p l e ({ frames := 3, cells := 1, slots := 1, locals := 39 } : Room) s m #[(.long q0)] below meth c s₁ [] 0 0 := Stand.of_body Bd
  have e0 : s₁.heap = h0 := by rw [← hh, Bd.state]; rfl
  have N0 := Fr.nil n0
  refine own_go (A' := (s₁.setTop (mkF m 0 #[.val (.long q0), .second, .unset] []))) (fun t k => castTop (ef_1 m q0) k) ?_
  refine own_go (A' := (s₁.setTop (mkF m 9 #[.val (.long q0), .second, .val (.int (128 : Int32))] [(.int (lcmpW q0 (-128 : Int64)))]))) (fun t k => ?_) ?_
  · show Steps p.tables e below (s₁.setTop (mkF m 0 #[.val (.long q0), .second, .unset] [])) _
    refine XS.sipush X0.here hx rfl (hb hby d1_0) ?_
    show Steps p.tables e below (s₁.setTop (mkF m 3 #[.val (.long q0), .second, .unset] [(.int (128 : Int32))])) _
    refine XS.istoreN X0.here hx rfl (hb hby d1_3) rfl (l' := #[.val (.long q0), .second, .val (.int (128 : Int32))]) rfl ?_
    show Steps p.tables e below (s₁.setTop (mkF m 4 #[.val (.long q0), .second, .val (.int (128 : Int32))] [])) _
    refine XS.lloadN X0.here hx rfl (hb hby d1_4) rfl ?_
    show Steps p.tables e below (s₁.setTop (mkF m 5 #[.val (.long q0), .second, .val (.int (128 : Int32))] [(.long q0)])) _
    refine X0.ldc2Long hx hown (mvT hZ (hw _ (List.mem_of_getElem? (i := 5) rfl))) (g := (mkF m 5 #[.val (.long q0), .second, .val (.int (128 : Int32))] [(.long q0)])) rfl (hb hby d1_5) _ ?_
    show Steps p.tables e below (s₁.setTop (mkF m 8 #[.val (.long q0), .second, .val (.int (128 : Int32))] [(.long (-128 : Int64)), (.long q0)])) _
    refine XS.lcmp X0.here hx rfl (hb hby d1_8) rfl ?_
    exact k
  by_cases hc6 : (lcmpW q0 (-128 : Int64)) < (0 : Int32)
  · -- hc6: yes
    refine own_go (A' := (s₁.setTop (mkF m 31 #[.val (.long q0), .second, .val (.int (128 : Int32))] []))) (fun t k => XS.ifYes X0.here hx rfl (pc0 := 9) (pc' := 31) rfl (hb hby d1_9) rfl ((if0 _ _).trans (tlt hc6).1) (by decide) (by decide) k) ?_
    obtain ⟨T7, h7, X7, e7, E7, A7, D7, -, st7⟩ := newO X0 hx hZ hown (hw _ (List.mem_of_getElem? (i := 27) rfl)) (hw _ (List.mem_of_getElem? (i := 28) rfl)) (hw _ (List.mem_of_getElem? (i := 3) rfl)) e0 (g := (mkF m 31 #[.val (.long q0), .second, .val (.int (128 : Int32))] [])) rfl (hb hby d1_31) (by decide) (by decide)
    obtain ⟨b7, g7⟩ : ∃ z, z = h0.size := ⟨_, rfl⟩
    have sz_b7 : h0.size ≤ b7 := Nat.le_of_eq g7.symm
    rw [← g7] at A7 D7 st7
    have K7 : Keep h0 h7 [] := (Keep.refl h0 []).ext E7
    have B7 : Ext h0 h7 := own_keep_ext K7
    have F7_value : Fld Z h7 b7 "java/lang/Long" "value" "J" (.long (0 : Int64)) := D7 (Or.inr (hw _ (List.mem_of_getElem? (i := 41) rfl))) (ty := .long) (by decide)
    obtain ⟨_, _, ⟨T8, L8, k8, n8⟩, -, X8, ⟨Lc8, hQ8, l8, y8, z8⟩, st8⟩ := X7.specialBack hx (y := (⟨"java/lang/Long", "<init>", "(J)V"⟩ : MethodName)) rfl hown (mvT hZ (hw _ (List.mem_of_getElem? (i := 29) rfl))) (mvT hZ (hw _ (List.mem_of_getElem? (i := 30) rfl))) (mvT hZ (hw _ (List.mem_of_getElem? (i := 32) rfl))) (by decide) (backOf (W := 1) (rm5 l Z a0 hw [] b7 q0  h7 n0 (Nat.le_trans Z0 K7.1) A7 F7_value (Nat.le_trans Z0 sz_b7)) hZ (hw _ (List.mem_of_getElem? (i := 32) rfl)) (hw _ (List.mem_of_getElem? (i := 3) rfl)) (by decide) (by decide)) (g := (mkF m 36 #[.val (.long q0), .second, .val (.int (128 : Int32))] [(.long q0), (.ref b7), (.ref b7)])) rfl (by rw [hml]; rfl) (Steps.refl _) (a := b7) (argsL := [(.long q0)]) (rest := [(.ref b7)]) (lenOf pd_1 rfl) rfl (by show 2 * 0 + _ ≤ _; exact Nat.le_of_eq rfl) (hb hby d1_36) (fun _ _ => ⟨rfl, e7, (by decide : 1 + 0 ≤ _), (by decide : 1 + 0 ≤ _)⟩)
    dsimp only [Pt.U, Pt.locs, Pt.cells, Pt.slots] at X8 l8 y8 z8 st8 hQ8
    subst l8 y8 z8
    obtain ⟨rfl, N8q, K8q, E8q, F8q⟩ := hQ8
    have N8 := Fr.app N0 N8q
    have K8 : Keep h0 T8.heap [] := K7.trans K8q (allS (Or.inr sz_b7) all0)
    have B8 : Ext h0 T8.heap := own_keep_ext K8
    refine own_go (A' := (T8.setTop (mkF m 39 #[.val (.long q0), .second, .val (.int (128 : Int32))] [(.ref b7)]))) (fun t k => ?_) ?_
    · show Steps p.tables e below (s₁.setTop (mkF m 31 #[.val (.long q0), .second, .val (.int (128 : Int32))] [])) _
      refine st7 _ ?_
      show Steps p.tables e below (T7.setTop (mkF m 34 #[.val (.long q0), .second, .val (.int (128 : Int32))] [(.ref b7)])) _
      refine XS.dup X7.here hx rfl (hb hby d1_34) rfl rfl ?_
      show Steps p.tables e below (T7.setTop (mkF m 35 #[.val (.long q0), .second, .val (.int (128 : Int32))] [(.ref b7), (.ref b7)])) _
      refine XS.lloadN X7.here hx rfl (hb hby d1_35) rfl ?_
      show Steps p.tables e below (T7.setTop (mkF m 36 #[.val (.long q0), .second, .val (.int (128 : Int32))] [(.long q0), (.ref b7), (.ref b7)])) _
      refine st8.trans ?_
      exact k
    obtain ⟨fs, hr, hrun, hended, hW, hsame⟩ := X8.leave (v := some (.ref b7)) (fun h => by rw [Bd.returns] at h; cases h) hlk
    refine ⟨_, _, ?_, hrun, hended, _, _, rfl, ?_, ⟨_, rfl⟩, hW, hsame.mono (by decide) (by decide)⟩
    · show Steps p.tables e below (T8.setTop (mkF m 39 #[.val (.long q0), .second, .val (.int (128 : Int32))] [(.ref b7)])) _
      exact own_retV X8 hx Bd.returns rfl rfl (hb hby d1_39) hr
    · show Q1 Z q0 wC clC h0 n0 _ T8.heap _
      exact ⟨_, rfl, N8, K8, E8q, F8q⟩
  · -- hc6: no
    refine own_go (A' := (s₁.setTop (mkF m 12 #[.val (.long q0), .second, .val (.int (128 : Int32))] []))) (fun t k => XS.ifNo X0.here hx rfl (hb hby d1_9) rfl ((if0 _ _).trans (flt hc6).1) k) ?_
    refine own_go (A' := (s₁.setTop (mkF m 17 #[.val (.long q0), .second, .val (.int (128 : Int32))] [(.int (lcmpW q0 (127 : Int64)))]))) (fun t k => ?_) ?_
    · show Steps p.tables e below (s₁.setTop (mkF m 12 #[.val (.long q0), .second, .val (.int (128 : Int32))] [])) _
      refine XS.lloadN X0.here hx rfl (hb hby d1_12) rfl ?_
      show Steps p.tables e below (s₁.setTop (mkF m 13 #[.val (.long q0), .second, .val (.int (128 : Int32))] [(.long q0)])) _
      refine X0.ldc2Long hx hown (mvT hZ (hw _ (List.mem_of_getElem? (i := 6) rfl))) (g := (mkF m 13 #[.val (.long q0), .second, .val (.int (128 : Int32))] [(.long q0)])) rfl (hb hby d1_13) _ ?_
      show Steps p.tables e below (s₁.setTop (mkF m 16 #[.val (.long q0), .second, .val (.int (128 : Int32))] [(.long (127 : Int64)), (.long q0)])) _
      refine XS.lcmp X0.here hx rfl (hb hby d1_16) rfl ?_
      exact k
    by_cases hc9 : (0 : Int32) < (lcmpW q0 (127 : Int64))
    · -- hc9: yes
      refine own_go (A' := (s₁.setTop (mkF m 31 #[.val (.long q0), .second, .val (.int (128 : Int32))] []))) (fun t k => XS.ifYes X0.here hx rfl (pc0 := 17) (pc' := 31) rfl (hb hby d1_17) rfl ((if0 _ _).trans (tlt hc9).2.2.1) (by decide) (by decide) k) ?_
      obtain ⟨T10, h10, X10, e10, E10, A10, D10, -, st10⟩ := newO X0 hx hZ hown (hw _ (List.mem_of_getElem? (i := 27) rfl)) (hw _ (List.mem_of_getElem? (i := 28) rfl)) (hw _ (List.mem_of_getElem? (i := 3) rfl)) e0 (g := (mkF m 31 #[.val (.long q0), .second, .val (.int (128 : Int32))] [])) rfl (hb hby d1_31) (by decide) (by decide)
      obtain ⟨b10, g10⟩ : ∃ z, z = h0.size := ⟨_, rfl⟩
      have sz_b10 : h0.size ≤ b10 := Nat.le_of_eq g10.symm
      rw [← g10] at A10 D10 st10
      have K10 : Keep h0 h10 [] := (Keep.refl h0 []).ext E10
      have B10 : Ext h0 h10 := own_keep_ext K10
      have F10_value : Fld Z h10 b10 "java/lang/Long" "value" "J" (.long (0 : Int64)) := D10 (Or.inr (hw _ (List.mem_of_getElem? (i := 41) rfl))) (ty := .long) (by decide)
      obtain ⟨_, _, ⟨T11, L11, k11, n11⟩, -, X11, ⟨Lc11, hQ11, l11, y11, z11⟩, st11⟩ := X10.specialBack hx (y := (⟨"java/lang/Long", "<init>", "(J)V"⟩ : MethodName)) rfl hown (mvT hZ (hw _ (List.mem_of_getElem? (i := 29) rfl))) (mvT hZ (hw _ (List.mem_of_getElem? (i := 30) rfl))) (mvT hZ (hw _ (List.mem_of_getElem? (i := 32) rfl))) (by decide) (backOf (W := 1) (rm5 l Z a0 hw [] b10 q0  h10 n0 (Nat.le_trans Z0 K10.1) A10 F10_value (Nat.le_trans Z0 sz_b10)) hZ (hw _ (List.mem_of_getElem? (i := 32) rfl)) (hw _ (List.mem_of_getElem? (i := 3) rfl)) (by decide) (by decide)) (g := (mkF m 36 #[.val (.long q0), .second, .val (.int (128 : Int32))] [(.long q0), (.ref b10), (.ref b10)])) rfl (by rw [hml]; rfl) (Steps.refl _) (a := b10) (argsL := [(.long q0)]) (rest := [(.ref b10)]) (lenOf pd_1 rfl) rfl (by show 2 * 0 + _ ≤ _; exact Nat.le_of_eq rfl) (hb hby d1_36) (fun _ _ => ⟨rfl, e10, (by decide : 1 + 0 ≤ _), (by decide : 1 + 0 ≤ _)⟩)
      dsimp only [Pt.U, Pt.locs, Pt.cells, Pt.slots] at X11 l11 y11 z11 st11 hQ11
      subst l11 y11 z11
      obtain ⟨rfl, N11q, K11q, E11q, F11q⟩ := hQ11
      have N11 := Fr.app N0 N11q
      have K11 : Keep h0 T11.heap [] := K10.trans K11q (allS (Or.inr sz_b10) all0)
      have B11 : Ext h0 T11.heap := own_keep_ext K11
      refine own_go (A' := (T11.setTop (mkF m 39 #[.val (.long q0), .second, .val (.int (128 : Int32))] [(.ref b10)]))) (fun t k => ?_) ?_
      · show Steps p.tables e below (s₁.setTop (mkF m 31 #[.val (.long q0), .second, .val (.int (128 : Int32))] [])) _
        refine st10 _ ?_
        show Steps p.tables e below (T10.setTop (mkF m 34 #[.val (.long q0), .second, .val (.int (128 : Int32))] [(.ref b10)])) _
        refine XS.dup X10.here hx rfl (hb hby d1_34) rfl rfl ?_
        show Steps p.tables e below (T10.setTop (mkF m 35 #[.val (.long q0), .second, .val (.int (128 : Int32))] [(.ref b10), (.ref b10)])) _
        refine XS.lloadN X10.here hx rfl (hb hby d1_35) rfl ?_
        show Steps p.tables e below (T10.setTop (mkF m 36 #[.val (.long q0), .second, .val (.int (128 : Int32))] [(.long q0), (.ref b10), (.ref b10)])) _
        refine st11.trans ?_
        exact k
      obtain ⟨fs, hr, hrun, hended, hW, hsame⟩ := X11.leave (v := some (.ref b10)) (fun h => by rw [Bd.returns] at h; cases h) hlk
      refine ⟨_, _, ?_, hrun, hended, _, _, rfl, ?_, ⟨_, rfl⟩, hW, hsame.mono (by decide) (by decide)⟩
      · show Steps p.tables e below (T11.setTop (mkF m 39 #[.val (.long q0), .second, .val (.int (128 : Int32))] [(.ref b10)])) _
        exact own_retV X11 hx Bd.returns rfl rfl (hb hby d1_39) hr
      · show Q1 Z q0 wC clC h0 n0 _ T11.heap _
        exact ⟨_, rfl, N11, K11, E11q, F11q⟩
    · -- hc9: no
      refine own_go (A' := (s₁.setTop (mkF m 20 #[.val (.long q0), .second, .val (.int (128 : Int32))] []))) (fun t k => XS.ifNo X0.here hx rfl (hb hby d1_17) rfl ((if0 _ _).trans (flt hc9).2.2.1) k) ?_
      obtain ⟨T12, X12, e12, st12⟩ := getS2 X0 hx hZ hown (host := "") (Or.inl (hw _ (List.mem_of_getElem? (i := 7) rfl))) Via.refl e0 S_cache (g := (mkF m 20 #[.val (.long q0), .second, .val (.int (128 : Int32))] [])) rfl (hb hby d1_20)
      have hlo : ¬ q0 < (-128 : Int64) := fun q => hc6 ((lw_lt q0 (-128 : Int64)).mpr q)
      have hhi : ¬ q0 > (127 : Int64) := fun q => hc9 ((lw_gt q0 (127 : Int64)).mpr q)
      obtain ⟨bC, hbC, EbC, FbC⟩ := P_C _ (Jvm.Free.LongBox.place_okL q0 hlo hhi).2
      rw [Jvm.Free.LongBox.place_valL q0 hlo hhi] at FbC
      have hinC : ¬ (((q0.toInt32) + (128 : Int32)) < 0 ∨ clC.slots.size ≤ (((q0.toInt32) + (128 : Int32))).toNatClampNeg) := by rw [L_C]; exact (Jvm.Free.LongBox.place_okL q0 hlo hhi).1
      refine own_go (A' := (T12.setTop (mkF m 30 #[.val (.long q0), .second, .val (.int (128 : Int32))] [(.ref bC)]))) (fun t k => ?_) ?_
      · show Steps p.tables e below (s₁.setTop (mkF m 20 #[.val (.long q0), .second, .val (.int (128 : Int32))] [])) _
        refine st12 _ ?_
        show Steps p.tables e below (T12.setTop (mkF m 23 #[.val (.long q0), .second, .val (.int (128 : Int32))] [(.ref wC)])) _
        refine XS.lloadN X12.here hx rfl (hb hby d1_23) rfl ?_
        show Steps p.tables e below (T12.setTop (mkF m 24 #[.val (.long q0), .second, .val (.int (128 : Int32))] [(.long q0), (.ref wC)])) _
        refine XS.l2i X12.here hx rfl (hb hby d1_24) rfl ?_
        show Steps p.tables e below (T12.setTop (mkF m 25 #[.val (.long q0), .second, .val (.int (128 : Int32))] [(.int (q0.toInt32)), (.ref wC)])) _
        refine XS.sipush X12.here hx rfl (hb hby d1_25) ?_
        show Steps p.tables e below (T12.setTop (mkF m 28 #[.val (.long q0), .second, .val (.int (128 : Int32))] [(.int (128 : Int32)), (.int (q0.toInt32)), (.ref wC)])) _
        refine XS.iadd X12.here hx rfl (hb hby d1_28) rfl ?_
        show Steps p.tables e below (T12.setTop (mkF m 29 #[.val (.long q0), .second, .val (.int (128 : Int32))] [(.int ((q0.toInt32) + (128 : Int32))), (.ref wC)])) _
        refine X12.aaload hx (j := ((q0.toInt32) + (128 : Int32))) (v := (.ref bC)) (by rw [e12]; exact Ar_C.1) (State.isArrayOf_alike hZ.alike Ar_C.2.1) rfl Ar_C.2.2 hinC hbC (g := (mkF m 29 #[.val (.long q0), .second, .val (.int (128 : Int32))] [(.int ((q0.toInt32) + (128 : Int32))), (.ref wC)])) rfl rfl (hb hby d1_29) _ ?_
        exact k
      obtain ⟨fs, hr, hrun, hended, hW, hsame⟩ := X12.leave (v := some (.ref bC)) (fun h => by rw [Bd.returns] at h; cases h) hlk
      refine ⟨_, _, ?_, hrun, hended, _, _, rfl, ?_, ⟨_, rfl⟩, hW, hsame.mono (by decide) (by decide)⟩
      · show Steps p.tables e below (T12.setTop (mkF m 30 #[.val (.long q0), .second, .val (.int (128 : Int32))] [(.ref bC)])) _
        exact own_retV X12 hx Bd.returns rfl rfl (hb hby d1_30) hr
      · show Q1 Z q0 wC clC h0 n0 _ T12.heap _
        rw [e12]
        exact ⟨_, rfl, N0, Keep.refl h0 [], EbC, FbC⟩
theorem d7_0 : decode jdk_35_method_31_code 0 = .ok (.aload_n 0, 1) := by decide +kernel
theorem d7_1 : decode jdk_35_method_31_code 1 = .ok (.getfield 273, 3) := by decide +kernel
theorem d7_4 : decode jdk_35_method_31_code 4 = .ok (.lreturn, 1) := by decide +kernel
theorem pn_7 : plainName "java/lang/Long" = true := by first | (simp [plainName, overriddenIn]; done) | decide +kernel
theorem ef_7 (m : MethodId) (r0 : Addr) : entryFrame m #[(.ref r0)] 1 = mkF m 0 #[.val (.ref r0)] [] := by first | (simp [entryFrame, mkF, argsToLocals, Value.category]; done) | rfl
def Q7 (Z : State) (r0 : Addr) (kv : Int64) (h0 : Heap) (n0 : Nat) (v : Option Value) (h : Heap) (L : List Loc) : Prop := v = some (.long kv) ∧ Fr n0 L ∧ h = h0
set_option maxRecDepth 65536 in
set_option maxHeartbeats 40000000 in
theorem rm7 (l : Launch) (Z : State) (a0 : Array Value) (hw : ∀ d ∈ tables_1, d.before a0 Z = true) (ws : List Jvm.Cond) (r0 : Addr) (kv : Int64) (h0 : Heap) (n0 : Nat) (Z0 : n0 ≤ h0.size) (F1 : Fld Z h0 r0 "java/lang/Long" "value" "J" (.long kv)) :
    MetFree l (⟨"java/lang/Long", "longValue", "()J"⟩ : MethodName) (head1 (Jvm.Cond.code (⟨"java/lang/Long", "longValue", "()J"⟩ : MethodName) jdk_35_method_31_code 1 (some .long) :: ws) ({ frames := 0, cells := 0, slots := 0, locals := 0 } : Room)) (fun a U => a = #[(.ref r0)] ∧ Z.Warmed39 U.vm ∧ U.heap = h0) (fun _ _ _ _ _ => True) (fun _ U o U' => ∃ v L, o = .returned v ∧ Q7 Z r0 kv h0 n0 v U'.heap L ∧ FrameEnd U o U' L ({ frames := 0, cells := 0, slots := 0, locals := 0 } : Room).cells ({ frames := 0, cells := 0, slots := 0, locals := 0 } : Room).slots) := by
  refine MetFree.of_bodySF (plainFor_of_name pn_7) hisR ?_
  intro p e s m args below meth c s₁ Bd hml0 hP hK
  obtain ⟨rfl, hZ, hh⟩ := hP
  have hx := Bd.exec
  have hlk : meth.locks = false := BodyLoose.notSynchronized Bd
  have hby := Bd.bytes
  have hml : c.maxLocals = 1 := hml0
  have hown : s.vm.findClass "java/lang/Long" = some m.cls := findClass_of_methodNamed Bd.named
  have hnm := (name_of_methodNamed Bd.named Bd.method).1
  have X0 : Stand p l e ({ frames := 0, cells := 0, slots := 0, locals := 0 } : Room) s m #[(.ref r0)] below meth c s₁ [] 0 0 := Stand.of_body Bd
  have e0 : s₁.heap = h0 := by rw [← hh, Bd.state]; rfl
  have N0 := Fr.nil n0
  refine own_go (A' := (s₁.setTop (mkF m 0 #[.val (.ref r0)] []))) (fun t k => castTop (ef_7 m r0) k) ?_
  obtain ⟨T13, X13, e13, st13⟩ := getF X0 hx hZ hown (host := "") (Or.inl (hw _ (List.mem_of_getElem? (i := 40) rfl))) Via.refl e0 F1 (g := (mkF m 1 #[.val (.ref r0)] [(.ref r0)])) rfl rfl (hb hby d7_1)
  refine own_go (A' := (T13.setTop (mkF m 4 #[.val (.ref r0)] [(.long kv)]))) (fun t k => ?_) ?_
  · show Steps p.tables e below (s₁.setTop (mkF m 0 #[.val (.ref r0)] [])) _
    refine XS.aloadN X0.here hx rfl (hb hby d7_0) rfl rfl ?_
    show Steps p.tables e below (s₁.setTop (mkF m 1 #[.val (.ref r0)] [(.ref r0)])) _
    refine st13 _ ?_
    exact k
  obtain ⟨fs, hr, hrun, hended, hW, hsame⟩ := X13.leave (v := some (.long kv)) (fun h => by rw [Bd.returns] at h; cases h) hlk
  refine ⟨_, _, ?_, hrun, hended, _, _, rfl, ?_, ⟨_, rfl⟩, hW, hsame.mono (by decide) (by decide)⟩
  · show Steps p.tables e below (T13.setTop (mkF m 4 #[.val (.ref r0)] [(.long kv)])) _
    exact own_retL X13 hx Bd.returns (hb hby d7_4) hr
  · show Q7 Z r0 kv h0 n0 _ T13.heap _
    exact ⟨rfl, N0, e13⟩
theorem d2_0 : decode prog_25_method_1_code 0 = .ok (.aload_n 0, 1) := by decide +kernel
theorem d2_1 : decode prog_25_method_1_code 1 = .ok (.invokespecial 1, 3) := by decide +kernel
theorem d2_4 : decode prog_25_method_1_code 4 = .ok (.aload_n 0, 1) := by decide +kernel
theorem d2_5 : decode prog_25_method_1_code 5 = .ok (.lload_n 1, 1) := by decide +kernel
theorem d2_6 : decode prog_25_method_1_code 6 = .ok (.putfield 7, 3) := by decide +kernel
theorem d2_9 : decode prog_25_method_1_code 9 = .ok (.aload_n 0, 1) := by decide +kernel
theorem d2_10 : decode prog_25_method_1_code 10 = .ok (.aload_n 3, 1) := by decide +kernel
theorem d2_11 : decode prog_25_method_1_code 11 = .ok (.putfield 13, 3) := by decide +kernel
theorem d2_14 : decode prog_25_method_1_code 14 = .ok (.return_, 1) := by decide +kernel
theorem pn_2 : plainName "com/example/lading/lading/core/Occurrence" = true := by first | (simp [plainName, overriddenIn]; done) | decide +kernel
theorem ef_2n (m : MethodId) (r0 : Addr) (q1 : Int64) : entryFrame m #[(.ref r0), (.long q1), .null] 4 = mkF m 0 #[.val (.ref r0), .val (.long q1), .second, .val .null] [] := by first | (simp [entryFrame, mkF, argsToLocals, Value.category]; done) | rfl
def Q2n (Z : State) (r0 : Addr) (q1 : Int64)  (h0 : Heap) (n0 : Nat) (v : Option Value) (h : Heap) (L : List Loc) : Prop := v = none ∧ Fr n0 L ∧ Keep h0 h [r0] ∧ Exa Z h r0 "com/example/lading/lading/core/Occurrence" ∧ Fld Z h r0 "com/example/lading/lading/core/Occurrence" "min" "J" (.long q1) ∧ Fld Z h r0 "com/example/lading/lading/core/Occurrence" "max" "Ljava/lang/Long;" .null
set_option maxRecDepth 65536 in
set_option maxHeartbeats 40000000 in
theorem rm2n (l : Launch) (Z : State) (a0 : Array Value) (hw : ∀ d ∈ tables_1, d.before a0 Z = true) (ws : List Jvm.Cond) (r0 : Addr) (q1 : Int64)  (h0 : Heap) (n0 : Nat) (Z0 : n0 ≤ h0.size) (E0_r0 : Exa Z h0 r0 "com/example/lading/lading/core/Occurrence") (F0_min : Fld Z h0 r0 "com/example/lading/lading/core/Occurrence" "min" "J" (.long (0 : Int64))) (F0_max : Fld Z h0 r0 "com/example/lading/lading/core/Occurrence" "max" "Ljava/lang/Long;" .null) (g_r0 : n0 ≤ r0) :
    MetFree l (⟨"com/example/lading/lading/core/Occurrence", "<init>", "(JLjava/lang/Long;)V"⟩ : MethodName) (head1 (Jvm.Cond.code (⟨"com/example/lading/lading/core/Occurrence", "<init>", "(JLjava/lang/Long;)V"⟩ : MethodName) prog_25_method_1_code 4 none :: ws) ({ frames := 1, cells := 0, slots := 0, locals := 12 } : Room)) (fun a U => a = #[(.ref r0), (.long q1), .null] ∧ Z.Warmed39 U.vm ∧ U.heap = h0) (fun _ _ _ _ _ => True) (fun _ U o U' => ∃ v L, o = .returned v ∧ Q2n Z r0 q1 h0 n0 v U'.heap L ∧ FrameEnd U o U' L ({ frames := 1, cells := 0, slots := 0, locals := 12 } : Room).cells ({ frames := 1, cells := 0, slots := 0, locals := 12 } : Room).slots) := by
  refine MetFree.of_bodySF (plainFor_of_name pn_2) hisR ?_
  intro p e s m args below meth c s₁ Bd hml0 hP hK
  obtain ⟨rfl, hZ, hh⟩ := hP
  have hx := Bd.exec
  have hlk : meth.locks = false := BodyLoose.notSynchronized Bd
  have hby := Bd.bytes
  have hml : c.maxLocals = 4 := hml0
  have hown : s.vm.findClass "com/example/lading/lading/core/Occurrence" = some m.cls := findClass_of_methodNamed Bd.named
  have hnm := (name_of_methodNamed Bd.named Bd.method).1
  have X0 : Stand p l e ({ frames := 1, cells := 0, slots := 0, locals := 12 } : Room) s m #[(.ref r0), (.long q1), .null] below meth c s₁ [] 0 0 := Stand.of_body Bd
  have e0 : s₁.heap = h0 := by rw [← hh, Bd.state]; rfl
  have N0 := Fr.nil n0
  refine own_go (A' := (s₁.setTop (mkF m 0 #[.val (.ref r0), .val (.long q1), .second, .val .null] []))) (fun t k => castTop (ef_2n m r0 q1) k) ?_
  obtain ⟨T14, X14, e14, st14⟩ := initO X0 hx hZ hown (hw _ (List.mem_of_getElem? (i := 15) rfl)) (hw _ (List.mem_of_getElem? (i := 16) rfl)) (hw _ (List.mem_of_getElem? (i := 17) rfl)) e0 (g := (mkF m 1 #[.val (.ref r0), .val (.long q1), .second, .val .null] [(.ref r0)])) rfl (by rw [hml]; rfl) rfl (hb hby d2_1) (by decide) (W := 0) (by show 2 * 0 + _ ≤ _; exact Nat.le_of_eq rfl) (by decide)
  obtain ⟨T15, h15, X15, e15, W15, st15⟩ := putF X14 hx hZ hown (host := "") (Or.inl (hw _ (List.mem_of_getElem? (i := 18) rfl))) Via.refl e14 F0_min E0_r0 (Or.inr ⟨(hw _ (List.mem_of_getElem? (i := 19) rfl)), rfl, hnm⟩) (hw _ (List.mem_of_getElem? (i := 10) rfl)) (ty := .long) (by decide) rfl rfl (g := (mkF m 6 #[.val (.ref r0), .val (.long q1), .second, .val .null] [(.long q1), (.ref r0)])) rfl rfl (hb hby d2_6)
  have K15 : Keep h0 h15 [r0] := (Keep.refl h0 [r0]).wr W15 (Or.inl (List.mem_of_getElem? (i := 0) rfl))
  have N15 := Fr.snoc X15 N0 g_r0
  obtain ⟨T16, h16, X16, e16, W16, st16⟩ := putF X15 hx hZ hown (host := "") (Or.inl (hw _ (List.mem_of_getElem? (i := 20) rfl))) Via.refl e15 (F0_max.other W15 (Or.inr (slot_ne (Or.inr (hw _ (List.mem_of_getElem? (i := 21) rfl))) (Or.inr (hw _ (List.mem_of_getElem? (i := 19) rfl))) (by decide) (t := (.object "java/lang/Long")) (t' := .long) (by decide) (by decide)))) (E0_r0.wr W15) (Or.inr ⟨(hw _ (List.mem_of_getElem? (i := 21) rfl)), rfl, hnm⟩) (hw _ (List.mem_of_getElem? (i := 10) rfl)) (ty := (.object "java/lang/Long")) (by decide) rfl rfl (g := (mkF m 11 #[.val (.ref r0), .val (.long q1), .second, .val .null] [.null, (.ref r0)])) rfl rfl (hb hby d2_11)
  have K16 : Keep h0 h16 [r0] := K15.wr W16 (Or.inl (List.mem_of_getElem? (i := 0) rfl))
  have N16 := Fr.snoc X16 N15 g_r0
  refine own_go (A' := (T16.setTop (mkF m 14 #[.val (.ref r0), .val (.long q1), .second, .val .null] []))) (fun t k => ?_) ?_
  · show Steps p.tables e below (s₁.setTop (mkF m 0 #[.val (.ref r0), .val (.long q1), .second, .val .null] [])) _
    refine XS.aloadN X0.here hx rfl (hb hby d2_0) rfl rfl ?_
    show Steps p.tables e below (s₁.setTop (mkF m 1 #[.val (.ref r0), .val (.long q1), .second, .val .null] [(.ref r0)])) _
    refine st14 _ ?_
    show Steps p.tables e below (T14.setTop (mkF m 4 #[.val (.ref r0), .val (.long q1), .second, .val .null] [])) _
    refine XS.aloadN X14.here hx rfl (hb hby d2_4) rfl rfl ?_
    show Steps p.tables e below (T14.setTop (mkF m 5 #[.val (.ref r0), .val (.long q1), .second, .val .null] [(.ref r0)])) _
    refine XS.lloadN X14.here hx rfl (hb hby d2_5) rfl ?_
    show Steps p.tables e below (T14.setTop (mkF m 6 #[.val (.ref r0), .val (.long q1), .second, .val .null] [(.long q1), (.ref r0)])) _
    refine st15 _ ?_
    show Steps p.tables e below (T15.setTop (mkF m 9 #[.val (.ref r0), .val (.long q1), .second, .val .null] [])) _
    refine XS.aloadN X15.here hx rfl (hb hby d2_9) rfl rfl ?_
    show Steps p.tables e below (T15.setTop (mkF m 10 #[.val (.ref r0), .val (.long q1), .second, .val .null] [(.ref r0)])) _
    refine XS.aloadN X15.here hx rfl (hb hby d2_10) rfl rfl ?_
    show Steps p.tables e below (T15.setTop (mkF m 11 #[.val (.ref r0), .val (.long q1), .second, .val .null] [.null, (.ref r0)])) _
    refine st16 _ ?_
    exact k
  obtain ⟨fs, hr, hrun, hended, hW, hsame⟩ := X16.leave (v := none) (fun _ => rfl) hlk
  refine ⟨_, _, ?_, hrun, hended, _, _, rfl, ?_, ⟨_, rfl⟩, hW, hsame.mono (by decide) (by decide)⟩
  · show Steps p.tables e below (T16.setTop (mkF m 14 #[.val (.ref r0), .val (.long q1), .second, .val .null] [])) _
    exact X16.returnOut hx Bd.returns (hb hby d2_14) hr
  · show Q2n Z r0 q1 h0 n0 _ T16.heap _
    rw [e16]
    exact ⟨rfl, N16, K16, ((E0_r0.wr W15).wr W16), ((F0_min.same W15).other W16 (Or.inr (slot_ne (Or.inr (hw _ (List.mem_of_getElem? (i := 19) rfl))) (Or.inr (hw _ (List.mem_of_getElem? (i := 21) rfl))) (by decide) (t := .long) (t' := (.object "java/lang/Long")) (by decide) (by decide)))), ((F0_max.other W15 (Or.inr (slot_ne (Or.inr (hw _ (List.mem_of_getElem? (i := 21) rfl))) (Or.inr (hw _ (List.mem_of_getElem? (i := 19) rfl))) (by decide) (t := (.object "java/lang/Long")) (t' := .long) (by decide) (by decide)))).same W16)⟩
theorem ef_2 (m : MethodId) (r0 : Addr) (q1 : Int64) (r2 : Addr) : entryFrame m #[(.ref r0), (.long q1), (.ref r2)] 4 = mkF m 0 #[.val (.ref r0), .val (.long q1), .second, .val (.ref r2)] [] := by first | (simp [entryFrame, mkF, argsToLocals, Value.category]; done) | rfl
def Q2 (Z : State) (r0 : Addr) (q1 : Int64) (r2 : Addr)  (h0 : Heap) (n0 : Nat) (v : Option Value) (h : Heap) (L : List Loc) : Prop := v = none ∧ Fr n0 L ∧ Keep h0 h [r0] ∧ Exa Z h r0 "com/example/lading/lading/core/Occurrence" ∧ Fld Z h r0 "com/example/lading/lading/core/Occurrence" "min" "J" (.long q1) ∧ Fld Z h r0 "com/example/lading/lading/core/Occurrence" "max" "Ljava/lang/Long;" (.ref r2)
set_option maxRecDepth 65536 in
set_option maxHeartbeats 40000000 in
theorem rm2 (l : Launch) (Z : State) (a0 : Array Value) (hw : ∀ d ∈ tables_1, d.before a0 Z = true) (ws : List Jvm.Cond) (r0 : Addr) (q1 : Int64) (r2 : Addr)  (h0 : Heap) (n0 : Nat) (Z0 : n0 ≤ h0.size) (E0_r0 : Exa Z h0 r0 "com/example/lading/lading/core/Occurrence") (F0_min : Fld Z h0 r0 "com/example/lading/lading/core/Occurrence" "min" "J" (.long (0 : Int64))) (F0_max : Fld Z h0 r0 "com/example/lading/lading/core/Occurrence" "max" "Ljava/lang/Long;" .null) (g_r0 : n0 ≤ r0) :
    MetFree l (⟨"com/example/lading/lading/core/Occurrence", "<init>", "(JLjava/lang/Long;)V"⟩ : MethodName) (head1 (Jvm.Cond.code (⟨"com/example/lading/lading/core/Occurrence", "<init>", "(JLjava/lang/Long;)V"⟩ : MethodName) prog_25_method_1_code 4 none :: ws) ({ frames := 1, cells := 0, slots := 0, locals := 12 } : Room)) (fun a U => a = #[(.ref r0), (.long q1), (.ref r2)] ∧ Z.Warmed39 U.vm ∧ U.heap = h0) (fun _ _ _ _ _ => True) (fun _ U o U' => ∃ v L, o = .returned v ∧ Q2 Z r0 q1 r2 h0 n0 v U'.heap L ∧ FrameEnd U o U' L ({ frames := 1, cells := 0, slots := 0, locals := 12 } : Room).cells ({ frames := 1, cells := 0, slots := 0, locals := 12 } : Room).slots) := by
  refine MetFree.of_bodySF (plainFor_of_name pn_2) hisR ?_
  intro p e s m args below meth c s₁ Bd hml0 hP hK
  obtain ⟨rfl, hZ, hh⟩ := hP
  have hx := Bd.exec
  have hlk : meth.locks = false := BodyLoose.notSynchronized Bd
  have hby := Bd.bytes
  have hml : c.maxLocals = 4 := hml0
  have hown : s.vm.findClass "com/example/lading/lading/core/Occurrence" = some m.cls := findClass_of_methodNamed Bd.named
  have hnm := (name_of_methodNamed Bd.named Bd.method).1
  have X0 : Stand p l e ({ frames := 1, cells := 0, slots := 0, locals := 12 } : Room) s m #[(.ref r0), (.long q1), (.ref r2)] below meth c s₁ [] 0 0 := Stand.of_body Bd
  have e0 : s₁.heap = h0 := by rw [← hh, Bd.state]; rfl
  have N0 := Fr.nil n0
  refine own_go (A' := (s₁.setTop (mkF m 0 #[.val (.ref r0), .val (.long q1), .second, .val (.ref r2)] []))) (fun t k => castTop (ef_2 m r0 q1 r2) k) ?_
  obtain ⟨T17, X17, e17, st17⟩ := initO X0 hx hZ hown (hw _ (List.mem_of_getElem? (i := 15) rfl)) (hw _ (List.mem_of_getElem? (i := 16) rfl)) (hw _ (List.mem_of_getElem? (i := 17) rfl)) e0 (g := (mkF m 1 #[.val (.ref r0), .val (.long q1), .second, .val (.ref r2)] [(.ref r0)])) rfl (by rw [hml]; rfl) rfl (hb hby d2_1) (by decide) (W := 0) (by show 2 * 0 + _ ≤ _; exact Nat.le_of_eq rfl) (by decide)
  obtain ⟨T18, h18, X18, e18, W18, st18⟩ := putF X17 hx hZ hown (host := "") (Or.inl (hw _ (List.mem_of_getElem? (i := 18) rfl))) Via.refl e17 F0_min E0_r0 (Or.inr ⟨(hw _ (List.mem_of_getElem? (i := 19) rfl)), rfl, hnm⟩) (hw _ (List.mem_of_getElem? (i := 10) rfl)) (ty := .long) (by decide) rfl rfl (g := (mkF m 6 #[.val (.ref r0), .val (.long q1), .second, .val (.ref r2)] [(.long q1), (.ref r0)])) rfl rfl (hb hby d2_6)
  have K18 : Keep h0 h18 [r0] := (Keep.refl h0 [r0]).wr W18 (Or.inl (List.mem_of_getElem? (i := 0) rfl))
  have N18 := Fr.snoc X18 N0 g_r0
  obtain ⟨T19, h19, X19, e19, W19, st19⟩ := putF X18 hx hZ hown (host := "") (Or.inl (hw _ (List.mem_of_getElem? (i := 20) rfl))) Via.refl e18 (F0_max.other W18 (Or.inr (slot_ne (Or.inr (hw _ (List.mem_of_getElem? (i := 21) rfl))) (Or.inr (hw _ (List.mem_of_getElem? (i := 19) rfl))) (by decide) (t := (.object "java/lang/Long")) (t' := .long) (by decide) (by decide)))) (E0_r0.wr W18) (Or.inr ⟨(hw _ (List.mem_of_getElem? (i := 21) rfl)), rfl, hnm⟩) (hw _ (List.mem_of_getElem? (i := 10) rfl)) (ty := (.object "java/lang/Long")) (by decide) rfl rfl (g := (mkF m 11 #[.val (.ref r0), .val (.long q1), .second, .val (.ref r2)] [(.ref r2), (.ref r0)])) rfl rfl (hb hby d2_11)
  have K19 : Keep h0 h19 [r0] := K18.wr W19 (Or.inl (List.mem_of_getElem? (i := 0) rfl))
  have N19 := Fr.snoc X19 N18 g_r0
  refine own_go (A' := (T19.setTop (mkF m 14 #[.val (.ref r0), .val (.long q1), .second, .val (.ref r2)] []))) (fun t k => ?_) ?_
  · show Steps p.tables e below (s₁.setTop (mkF m 0 #[.val (.ref r0), .val (.long q1), .second, .val (.ref r2)] [])) _
    refine XS.aloadN X0.here hx rfl (hb hby d2_0) rfl rfl ?_
    show Steps p.tables e below (s₁.setTop (mkF m 1 #[.val (.ref r0), .val (.long q1), .second, .val (.ref r2)] [(.ref r0)])) _
    refine st17 _ ?_
    show Steps p.tables e below (T17.setTop (mkF m 4 #[.val (.ref r0), .val (.long q1), .second, .val (.ref r2)] [])) _
    refine XS.aloadN X17.here hx rfl (hb hby d2_4) rfl rfl ?_
    show Steps p.tables e below (T17.setTop (mkF m 5 #[.val (.ref r0), .val (.long q1), .second, .val (.ref r2)] [(.ref r0)])) _
    refine XS.lloadN X17.here hx rfl (hb hby d2_5) rfl ?_
    show Steps p.tables e below (T17.setTop (mkF m 6 #[.val (.ref r0), .val (.long q1), .second, .val (.ref r2)] [(.long q1), (.ref r0)])) _
    refine st18 _ ?_
    show Steps p.tables e below (T18.setTop (mkF m 9 #[.val (.ref r0), .val (.long q1), .second, .val (.ref r2)] [])) _
    refine XS.aloadN X18.here hx rfl (hb hby d2_9) rfl rfl ?_
    show Steps p.tables e below (T18.setTop (mkF m 10 #[.val (.ref r0), .val (.long q1), .second, .val (.ref r2)] [(.ref r0)])) _
    refine XS.aloadN X18.here hx rfl (hb hby d2_10) rfl rfl ?_
    show Steps p.tables e below (T18.setTop (mkF m 11 #[.val (.ref r0), .val (.long q1), .second, .val (.ref r2)] [(.ref r2), (.ref r0)])) _
    refine st19 _ ?_
    exact k
  obtain ⟨fs, hr, hrun, hended, hW, hsame⟩ := X19.leave (v := none) (fun _ => rfl) hlk
  refine ⟨_, _, ?_, hrun, hended, _, _, rfl, ?_, ⟨_, rfl⟩, hW, hsame.mono (by decide) (by decide)⟩
  · show Steps p.tables e below (T19.setTop (mkF m 14 #[.val (.ref r0), .val (.long q1), .second, .val (.ref r2)] [])) _
    exact X19.returnOut hx Bd.returns (hb hby d2_14) hr
  · show Q2 Z r0 q1 r2 h0 n0 _ T19.heap _
    rw [e19]
    exact ⟨rfl, N19, K19, ((E0_r0.wr W18).wr W19), ((F0_min.same W18).other W19 (Or.inr (slot_ne (Or.inr (hw _ (List.mem_of_getElem? (i := 19) rfl))) (Or.inr (hw _ (List.mem_of_getElem? (i := 21) rfl))) (by decide) (t := .long) (t' := (.object "java/lang/Long")) (by decide) (by decide)))), ((F0_max.other W18 (Or.inr (slot_ne (Or.inr (hw _ (List.mem_of_getElem? (i := 21) rfl))) (Or.inr (hw _ (List.mem_of_getElem? (i := 19) rfl))) (by decide) (t := (.object "java/lang/Long")) (t' := .long) (by decide) (by decide)))).same W19)⟩
theorem d4_0 : decode prog_25_method_5_code 0 = .ok (.lload_n 1, 1) := by decide +kernel
theorem d4_1 : decode prog_25_method_5_code 1 = .ok (.aload_n 0, 1) := by decide +kernel
theorem d4_2 : decode prog_25_method_5_code 2 = .ok (.getfield 7, 3) := by decide +kernel
theorem d4_5 : decode prog_25_method_5_code 5 = .ok (.lcmp, 1) := by decide +kernel
theorem d4_6 : decode prog_25_method_5_code 6 = .ok (.ifCond .lt 26, 3) := by decide +kernel
theorem d4_9 : decode prog_25_method_5_code 9 = .ok (.aload_n 0, 1) := by decide +kernel
theorem d4_10 : decode prog_25_method_5_code 10 = .ok (.getfield 13, 3) := by decide +kernel
theorem d4_13 : decode prog_25_method_5_code 13 = .ok (.ifnull 15, 3) := by decide +kernel
theorem d4_28 : decode prog_25_method_5_code 28 = .ok (.iconst 1, 1) := by decide +kernel
theorem d4_29 : decode prog_25_method_5_code 29 = .ok (.goto 4, 3) := by decide +kernel
theorem d4_32 : decode prog_25_method_5_code 32 = .ok (.iconst 0, 1) := by decide +kernel
theorem d4_33 : decode prog_25_method_5_code 33 = .ok (.ireturn, 1) := by decide +kernel
theorem pn_4 : plainName "com/example/lading/lading/core/Occurrence" = true := by first | (simp [plainName, overriddenIn]; done) | decide +kernel
theorem ef_4n (m : MethodId) (r0 : Addr) (q1 : Int64) : entryFrame m #[(.ref r0), (.long q1)] 3 = mkF m 0 #[.val (.ref r0), .val (.long q1), .second] [] := by first | (simp [entryFrame, mkF, argsToLocals, Value.category]; done) | rfl
def Q4n (Z : State) (r0 : Addr) (q1 : Int64) (km : Int64) (h0 : Heap) (n0 : Nat) (v : Option Value) (h : Heap) (L : List Loc) : Prop := v = some (.int (alN km q1)) ∧ Fr n0 L ∧ h = h0
set_option maxRecDepth 65536 in
set_option maxHeartbeats 40000000 in
theorem rm4n (l : Launch) (Z : State) (a0 : Array Value) (hw : ∀ d ∈ tables_1, d.before a0 Z = true) (ws : List Jvm.Cond) (r0 : Addr) (q1 : Int64) (km : Int64) (h0 : Heap) (n0 : Nat) (Z0 : n0 ≤ h0.size) (F_min : Fld Z h0 r0 "com/example/lading/lading/core/Occurrence" "min" "J" (.long km)) (F_max : Fld Z h0 r0 "com/example/lading/lading/core/Occurrence" "max" "Ljava/lang/Long;" .null) :
    MetFree l (⟨"com/example/lading/lading/core/Occurrence", "allows", "(J)Z"⟩ : MethodName) (head1 (Jvm.Cond.code (⟨"com/example/lading/lading/core/Occurrence", "allows", "(J)Z"⟩ : MethodName) prog_25_method_5_code 3 (some .boolean) :: ws) ({ frames := 0, cells := 0, slots := 0, locals := 0 } : Room)) (fun a U => a = #[(.ref r0), (.long q1)] ∧ Z.Warmed39 U.vm ∧ U.heap = h0) (fun _ _ _ _ _ => True) (fun _ U o U' => ∃ v L, o = .returned v ∧ Q4n Z r0 q1 km h0 n0 v U'.heap L ∧ FrameEnd U o U' L ({ frames := 0, cells := 0, slots := 0, locals := 0 } : Room).cells ({ frames := 0, cells := 0, slots := 0, locals := 0 } : Room).slots) := by
  refine MetFree.of_bodySF (plainFor_of_name pn_4) hisR ?_
  intro p e s m args below meth c s₁ Bd hml0 hP hK
  obtain ⟨rfl, hZ, hh⟩ := hP
  have hx := Bd.exec
  have hlk : meth.locks = false := BodyLoose.notSynchronized Bd
  have hby := Bd.bytes
  have hml : c.maxLocals = 3 := hml0
  have hown : s.vm.findClass "com/example/lading/lading/core/Occurrence" = some m.cls := findClass_of_methodNamed Bd.named
  have hnm := (name_of_methodNamed Bd.named Bd.method).1
  have X0 : Stand p l e ({ frames := 0, cells := 0, slots := 0, locals := 0 } : Room) s m #[(.ref r0), (.long q1)] below meth c s₁ [] 0 0 := Stand.of_body Bd
  have e0 : s₁.heap = h0 := by rw [← hh, Bd.state]; rfl
  have N0 := Fr.nil n0
  refine own_go (A' := (s₁.setTop (mkF m 0 #[.val (.ref r0), .val (.long q1), .second] []))) (fun t k => castTop (ef_4n m r0 q1) k) ?_
  obtain ⟨T20, X20, e20, st20⟩ := getF X0 hx hZ hown (host := "") (Or.inl (hw _ (List.mem_of_getElem? (i := 18) rfl))) Via.refl e0 F_min (g := (mkF m 2 #[.val (.ref r0), .val (.long q1), .second] [(.ref r0), (.long q1)])) rfl rfl (hb hby d4_2)
  refine own_go (A' := (T20.setTop (mkF m 6 #[.val (.ref r0), .val (.long q1), .second] [(.int (lcmpW q1 km))]))) (fun t k => ?_) ?_
  · show Steps p.tables e below (s₁.setTop (mkF m 0 #[.val (.ref r0), .val (.long q1), .second] [])) _
    refine XS.lloadN X0.here hx rfl (hb hby d4_0) rfl ?_
    show Steps p.tables e below (s₁.setTop (mkF m 1 #[.val (.ref r0), .val (.long q1), .second] [(.long q1)])) _
    refine XS.aloadN X0.here hx rfl (hb hby d4_1) rfl rfl ?_
    show Steps p.tables e below (s₁.setTop (mkF m 2 #[.val (.ref r0), .val (.long q1), .second] [(.ref r0), (.long q1)])) _
    refine st20 _ ?_
    show Steps p.tables e below (T20.setTop (mkF m 5 #[.val (.ref r0), .val (.long q1), .second] [(.long km), (.long q1)])) _
    refine XS.lcmp X20.here hx rfl (hb hby d4_5) rfl ?_
    exact k
  by_cases hc21 : (lcmpW q1 km) < (0 : Int32)
  · -- hc21: yes
    refine own_go (A' := (T20.setTop (mkF m 32 #[.val (.ref r0), .val (.long q1), .second] []))) (fun t k => XS.ifYes X20.here hx rfl (pc0 := 6) (pc' := 32) rfl (hb hby d4_6) rfl ((if0 _ _).trans (tlt hc21).1) (by decide) (by decide) k) ?_
    refine own_go (A' := (T20.setTop (mkF m 33 #[.val (.ref r0), .val (.long q1), .second] [(.int (0 : Int32))]))) (fun t k => ?_) ?_
    · show Steps p.tables e below (T20.setTop (mkF m 32 #[.val (.ref r0), .val (.long q1), .second] [])) _
      refine XS.iconst X20.here hx rfl (hb hby d4_32) ?_
      exact k
    obtain ⟨fs, hr, hrun, hended, hW, hsame⟩ := X20.leave (v := some (.int (0 : Int32))) (fun h => by rw [Bd.returns] at h; cases h) hlk
    refine ⟨_, _, ?_, hrun, hended, _, _, rfl, ?_, ⟨_, rfl⟩, hW, hsame.mono (by decide) (by decide)⟩
    · show Steps p.tables e below (T20.setTop (mkF m 33 #[.val (.ref r0), .val (.long q1), .second] [(.int (0 : Int32))])) _
      exact retN X20 hx (t := .boolean) Bd.returns (by simp) (hb hby d4_33) hr
    · show Q4n Z r0 q1 km h0 n0 _ T20.heap _
      exact ⟨(by rw [alN, if_pos hc21]), N0, e20⟩
  · -- hc21: no
    refine own_go (A' := (T20.setTop (mkF m 9 #[.val (.ref r0), .val (.long q1), .second] []))) (fun t k => XS.ifNo X20.here hx rfl (hb hby d4_6) rfl ((if0 _ _).trans (flt hc21).1) k) ?_
    obtain ⟨T22, X22, e22, st22⟩ := getF X20 hx hZ hown (host := "") (Or.inl (hw _ (List.mem_of_getElem? (i := 20) rfl))) Via.refl e20 F_max (g := (mkF m 10 #[.val (.ref r0), .val (.long q1), .second] [(.ref r0)])) rfl rfl (hb hby d4_10)
    refine own_go (A' := (T22.setTop (mkF m 13 #[.val (.ref r0), .val (.long q1), .second] [.null]))) (fun t k => ?_) ?_
    · show Steps p.tables e below (T20.setTop (mkF m 9 #[.val (.ref r0), .val (.long q1), .second] [])) _
      refine XS.aloadN X20.here hx rfl (hb hby d4_9) rfl rfl ?_
      show Steps p.tables e below (T20.setTop (mkF m 10 #[.val (.ref r0), .val (.long q1), .second] [(.ref r0)])) _
      refine st22 _ ?_
      exact k
    refine own_go (A' := (T22.setTop (mkF m 28 #[.val (.ref r0), .val (.long q1), .second] []))) (fun t k => XS.ifnullYes X22.here hx rfl (pc0 := 13) (pc' := 28) rfl (hb hby d4_13) rfl (by decide) (by decide) k) ?_
    refine own_go (A' := (T22.setTop (mkF m 33 #[.val (.ref r0), .val (.long q1), .second] [(.int (1 : Int32))]))) (fun t k => ?_) ?_
    · show Steps p.tables e below (T22.setTop (mkF m 28 #[.val (.ref r0), .val (.long q1), .second] [])) _
      refine XS.iconst X22.here hx rfl (hb hby d4_28) ?_
      show Steps p.tables e below (T22.setTop (mkF m 29 #[.val (.ref r0), .val (.long q1), .second] [(.int (1 : Int32))])) _
      refine XS.goto X22.here hx rfl (pc0 := 29) (pc' := 33) rfl (hb hby d4_29) (by decide) (by decide) ?_
      exact k
    obtain ⟨fs, hr, hrun, hended, hW, hsame⟩ := X22.leave (v := some (.int (1 : Int32))) (fun h => by rw [Bd.returns] at h; cases h) hlk
    refine ⟨_, _, ?_, hrun, hended, _, _, rfl, ?_, ⟨_, rfl⟩, hW, hsame.mono (by decide) (by decide)⟩
    · show Steps p.tables e below (T22.setTop (mkF m 33 #[.val (.ref r0), .val (.long q1), .second] [(.int (1 : Int32))])) _
      exact retN X22 hx (t := .boolean) Bd.returns (by simp) (hb hby d4_33) hr
    · show Q4n Z r0 q1 km h0 n0 _ T22.heap _
      exact ⟨(by rw [alN, if_neg hc21]), N0, e22⟩
theorem pd_2 : parseMethodDescriptor "()J" = some ⟨[], some .long⟩ := by decide +kernel
theorem d4_16 : decode prog_25_method_5_code 16 = .ok (.lload_n 1, 1) := by decide +kernel
theorem d4_17 : decode prog_25_method_5_code 17 = .ok (.aload_n 0, 1) := by decide +kernel
theorem d4_18 : decode prog_25_method_5_code 18 = .ok (.getfield 13, 3) := by decide +kernel
theorem d4_21 : decode prog_25_method_5_code 21 = .ok (.invokevirtual 17, 3) := by decide +kernel
theorem d4_24 : decode prog_25_method_5_code 24 = .ok (.lcmp, 1) := by decide +kernel
theorem d4_25 : decode prog_25_method_5_code 25 = .ok (.ifCond .gt 7, 3) := by decide +kernel
theorem ef_4 (m : MethodId) (r0 : Addr) (q1 : Int64) : entryFrame m #[(.ref r0), (.long q1)] 3 = mkF m 0 #[.val (.ref r0), .val (.long q1), .second] [] := by first | (simp [entryFrame, mkF, argsToLocals, Value.category]; done) | rfl
def Q4 (Z : State) (r0 : Addr) (q1 : Int64) (km : Int64) (rx : Addr) (kv : Int64) (h0 : Heap) (n0 : Nat) (v : Option Value) (h : Heap) (L : List Loc) : Prop := v = some (.int (alM km kv q1)) ∧ Fr n0 L ∧ h = h0
set_option maxRecDepth 65536 in
set_option maxHeartbeats 40000000 in
theorem rm4 (l : Launch) (Z : State) (a0 : Array Value) (hw : ∀ d ∈ tables_1, d.before a0 Z = true) (ws : List Jvm.Cond) (r0 : Addr) (q1 : Int64) (km : Int64) (rx : Addr) (kv : Int64) (h0 : Heap) (n0 : Nat) (Z0 : n0 ≤ h0.size) (F_min : Fld Z h0 r0 "com/example/lading/lading/core/Occurrence" "min" "J" (.long km)) (F_max : Fld Z h0 r0 "com/example/lading/lading/core/Occurrence" "max" "Ljava/lang/Long;" (.ref rx)) (E_x : Exa Z h0 rx "java/lang/Long") (F_v : Fld Z h0 rx "java/lang/Long" "value" "J" (.long kv)) :
    MetFree l (⟨"com/example/lading/lading/core/Occurrence", "allows", "(J)Z"⟩ : MethodName) (head1 (Jvm.Cond.code (⟨"com/example/lading/lading/core/Occurrence", "allows", "(J)Z"⟩ : MethodName) prog_25_method_5_code 3 (some .boolean) :: ws) ({ frames := 1, cells := 0, slots := 0, locals := 14 } : Room)) (fun a U => a = #[(.ref r0), (.long q1)] ∧ Z.Warmed39 U.vm ∧ U.heap = h0) (fun _ _ _ _ _ => True) (fun _ U o U' => ∃ v L, o = .returned v ∧ Q4 Z r0 q1 km rx kv h0 n0 v U'.heap L ∧ FrameEnd U o U' L ({ frames := 1, cells := 0, slots := 0, locals := 14 } : Room).cells ({ frames := 1, cells := 0, slots := 0, locals := 14 } : Room).slots) := by
  refine MetFree.of_bodySF (plainFor_of_name pn_4) hisR ?_
  intro p e s m args below meth c s₁ Bd hml0 hP hK
  obtain ⟨rfl, hZ, hh⟩ := hP
  have hx := Bd.exec
  have hlk : meth.locks = false := BodyLoose.notSynchronized Bd
  have hby := Bd.bytes
  have hml : c.maxLocals = 3 := hml0
  have hown : s.vm.findClass "com/example/lading/lading/core/Occurrence" = some m.cls := findClass_of_methodNamed Bd.named
  have hnm := (name_of_methodNamed Bd.named Bd.method).1
  have X0 : Stand p l e ({ frames := 1, cells := 0, slots := 0, locals := 14 } : Room) s m #[(.ref r0), (.long q1)] below meth c s₁ [] 0 0 := Stand.of_body Bd
  have e0 : s₁.heap = h0 := by rw [← hh, Bd.state]; rfl
  have N0 := Fr.nil n0
  refine own_go (A' := (s₁.setTop (mkF m 0 #[.val (.ref r0), .val (.long q1), .second] []))) (fun t k => castTop (ef_4 m r0 q1) k) ?_
  obtain ⟨T23, X23, e23, st23⟩ := getF X0 hx hZ hown (host := "") (Or.inl (hw _ (List.mem_of_getElem? (i := 18) rfl))) Via.refl e0 F_min (g := (mkF m 2 #[.val (.ref r0), .val (.long q1), .second] [(.ref r0), (.long q1)])) rfl rfl (hb hby d4_2)
  refine own_go (A' := (T23.setTop (mkF m 6 #[.val (.ref r0), .val (.long q1), .second] [(.int (lcmpW q1 km))]))) (fun t k => ?_) ?_
  · show Steps p.tables e below (s₁.setTop (mkF m 0 #[.val (.ref r0), .val (.long q1), .second] [])) _
    refine XS.lloadN X0.here hx rfl (hb hby d4_0) rfl ?_
    show Steps p.tables e below (s₁.setTop (mkF m 1 #[.val (.ref r0), .val (.long q1), .second] [(.long q1)])) _
    refine XS.aloadN X0.here hx rfl (hb hby d4_1) rfl rfl ?_
    show Steps p.tables e below (s₁.setTop (mkF m 2 #[.val (.ref r0), .val (.long q1), .second] [(.ref r0), (.long q1)])) _
    refine st23 _ ?_
    show Steps p.tables e below (T23.setTop (mkF m 5 #[.val (.ref r0), .val (.long q1), .second] [(.long km), (.long q1)])) _
    refine XS.lcmp X23.here hx rfl (hb hby d4_5) rfl ?_
    exact k
  by_cases hc24 : (lcmpW q1 km) < (0 : Int32)
  · -- hc24: yes
    refine own_go (A' := (T23.setTop (mkF m 32 #[.val (.ref r0), .val (.long q1), .second] []))) (fun t k => XS.ifYes X23.here hx rfl (pc0 := 6) (pc' := 32) rfl (hb hby d4_6) rfl ((if0 _ _).trans (tlt hc24).1) (by decide) (by decide) k) ?_
    refine own_go (A' := (T23.setTop (mkF m 33 #[.val (.ref r0), .val (.long q1), .second] [(.int (0 : Int32))]))) (fun t k => ?_) ?_
    · show Steps p.tables e below (T23.setTop (mkF m 32 #[.val (.ref r0), .val (.long q1), .second] [])) _
      refine XS.iconst X23.here hx rfl (hb hby d4_32) ?_
      exact k
    obtain ⟨fs, hr, hrun, hended, hW, hsame⟩ := X23.leave (v := some (.int (0 : Int32))) (fun h => by rw [Bd.returns] at h; cases h) hlk
    refine ⟨_, _, ?_, hrun, hended, _, _, rfl, ?_, ⟨_, rfl⟩, hW, hsame.mono (by decide) (by decide)⟩
    · show Steps p.tables e below (T23.setTop (mkF m 33 #[.val (.ref r0), .val (.long q1), .second] [(.int (0 : Int32))])) _
      exact retN X23 hx (t := .boolean) Bd.returns (by simp) (hb hby d4_33) hr
    · show Q4 Z r0 q1 km rx kv h0 n0 _ T23.heap _
      exact ⟨(by rw [alM, if_pos hc24]), N0, e23⟩
  · -- hc24: no
    refine own_go (A' := (T23.setTop (mkF m 9 #[.val (.ref r0), .val (.long q1), .second] []))) (fun t k => XS.ifNo X23.here hx rfl (hb hby d4_6) rfl ((if0 _ _).trans (flt hc24).1) k) ?_
    obtain ⟨T25, X25, e25, st25⟩ := getF X23 hx hZ hown (host := "") (Or.inl (hw _ (List.mem_of_getElem? (i := 20) rfl))) Via.refl e23 F_max (g := (mkF m 10 #[.val (.ref r0), .val (.long q1), .second] [(.ref r0)])) rfl rfl (hb hby d4_10)
    refine own_go (A' := (T25.setTop (mkF m 13 #[.val (.ref r0), .val (.long q1), .second] [(.ref rx)]))) (fun t k => ?_) ?_
    · show Steps p.tables e below (T23.setTop (mkF m 9 #[.val (.ref r0), .val (.long q1), .second] [])) _
      refine XS.aloadN X23.here hx rfl (hb hby d4_9) rfl rfl ?_
      show Steps p.tables e below (T23.setTop (mkF m 10 #[.val (.ref r0), .val (.long q1), .second] [(.ref r0)])) _
      refine st25 _ ?_
      exact k
    refine own_go (A' := (T25.setTop (mkF m 16 #[.val (.ref r0), .val (.long q1), .second] []))) (fun t k => XS.ifnullNo X25.here hx rfl (hb hby d4_13) rfl k) ?_
    obtain ⟨T26, X26, e26, st26⟩ := getF X25 hx hZ hown (host := "") (Or.inl (hw _ (List.mem_of_getElem? (i := 20) rfl))) Via.refl e25 F_max (g := (mkF m 18 #[.val (.ref r0), .val (.long q1), .second] [(.ref r0), (.long q1)])) rfl rfl (hb hby d4_18)
    obtain ⟨cq27, kq27, q27a, q27b, q27c⟩ := isOf hZ e26 E_x
    obtain ⟨_, _, ⟨T27, L27, k27, n27⟩, -, X27, ⟨Lc27, hQ27, l27, y27, z27⟩, st27⟩ := X26.virtualBack hx (y := (⟨"java/lang/Long", "longValue", "()J"⟩ : MethodName)) (z := (⟨"java/lang/Long", "longValue", "()J"⟩ : MethodName)) hown (mvT hZ (hw _ (List.mem_of_getElem? (i := 42) rfl))) (mvT hZ (hw _ (List.mem_of_getElem? (i := 43) rfl))) (notFace_of_selects (args := #[]) (mvT hZ (hw _ (List.mem_of_getElem? (i := 45) rfl)))) (mvT hZ (hw _ (List.mem_of_getElem? (i := 45) rfl))) (mvT hZ (hw _ (List.mem_of_getElem? (i := 44) rfl))) (by decide) (backOf (W := 2) (rm7 l Z a0 hw [] rx kv h0 n0 Z0 F_v) hZ (hw _ (List.mem_of_getElem? (i := 46) rfl)) (hw _ (List.mem_of_getElem? (i := 3) rfl)) (by decide) (by decide)) q27a q27c (g := (mkF m 21 #[.val (.ref r0), .val (.long q1), .second] [(.ref rx), (.long q1)])) rfl (by rw [hml]; rfl) (Steps.refl _) (argsL := []) (rest := [(.long q1)]) (lenOf pd_2 rfl) rfl (by show 2 * 0 + _ ≤ _; exact Nat.le_of_eq rfl) (hb hby d4_21) (fun _ _ => ⟨rfl, e26, (by decide : 0 + 0 ≤ _), (by decide : 0 + 0 ≤ _)⟩)
    dsimp only [Pt.U, Pt.locs, Pt.cells, Pt.slots] at X27 l27 y27 z27 st27 hQ27
    subst l27 y27 z27
    obtain ⟨rfl, N27q, e27⟩ := hQ27
    have N27 := Fr.app N0 N27q
    refine own_go (A' := (T27.setTop (mkF m 25 #[.val (.ref r0), .val (.long q1), .second] [(.int (lcmpW q1 kv))]))) (fun t k => ?_) ?_
    · show Steps p.tables e below (T25.setTop (mkF m 16 #[.val (.ref r0), .val (.long q1), .second] [])) _
      refine XS.lloadN X25.here hx rfl (hb hby d4_16) rfl ?_
      show Steps p.tables e below (T25.setTop (mkF m 17 #[.val (.ref r0), .val (.long q1), .second] [(.long q1)])) _
      refine XS.aloadN X25.here hx rfl (hb hby d4_17) rfl rfl ?_
      show Steps p.tables e below (T25.setTop (mkF m 18 #[.val (.ref r0), .val (.long q1), .second] [(.ref r0), (.long q1)])) _
      refine st26 _ ?_
      show Steps p.tables e below (T26.setTop (mkF m 21 #[.val (.ref r0), .val (.long q1), .second] [(.ref rx), (.long q1)])) _
      refine st27.trans ?_
      show Steps p.tables e below (T27.setTop (mkF m 24 #[.val (.ref r0), .val (.long q1), .second] [(.long kv), (.long q1)])) _
      refine XS.lcmp X27.here hx rfl (hb hby d4_24) rfl ?_
      exact k
    by_cases hc28 : (0 : Int32) < (lcmpW q1 kv)
    · -- hc28: yes
      refine own_go (A' := (T27.setTop (mkF m 32 #[.val (.ref r0), .val (.long q1), .second] []))) (fun t k => XS.ifYes X27.here hx rfl (pc0 := 25) (pc' := 32) rfl (hb hby d4_25) rfl ((if0 _ _).trans (tlt hc28).2.2.1) (by decide) (by decide) k) ?_
      refine own_go (A' := (T27.setTop (mkF m 33 #[.val (.ref r0), .val (.long q1), .second] [(.int (0 : Int32))]))) (fun t k => ?_) ?_
      · show Steps p.tables e below (T27.setTop (mkF m 32 #[.val (.ref r0), .val (.long q1), .second] [])) _
        refine XS.iconst X27.here hx rfl (hb hby d4_32) ?_
        exact k
      obtain ⟨fs, hr, hrun, hended, hW, hsame⟩ := X27.leave (v := some (.int (0 : Int32))) (fun h => by rw [Bd.returns] at h; cases h) hlk
      refine ⟨_, _, ?_, hrun, hended, _, _, rfl, ?_, ⟨_, rfl⟩, hW, hsame.mono (by decide) (by decide)⟩
      · show Steps p.tables e below (T27.setTop (mkF m 33 #[.val (.ref r0), .val (.long q1), .second] [(.int (0 : Int32))])) _
        exact retN X27 hx (t := .boolean) Bd.returns (by simp) (hb hby d4_33) hr
      · show Q4 Z r0 q1 km rx kv h0 n0 _ T27.heap _
        exact ⟨(by rw [alM, if_neg hc24, if_pos hc28]), N27, e27⟩
    · -- hc28: no
      refine own_go (A' := (T27.setTop (mkF m 28 #[.val (.ref r0), .val (.long q1), .second] []))) (fun t k => XS.ifNo X27.here hx rfl (hb hby d4_25) rfl ((if0 _ _).trans (flt hc28).2.2.1) k) ?_
      refine own_go (A' := (T27.setTop (mkF m 33 #[.val (.ref r0), .val (.long q1), .second] [(.int (1 : Int32))]))) (fun t k => ?_) ?_
      · show Steps p.tables e below (T27.setTop (mkF m 28 #[.val (.ref r0), .val (.long q1), .second] [])) _
        refine XS.iconst X27.here hx rfl (hb hby d4_28) ?_
        show Steps p.tables e below (T27.setTop (mkF m 29 #[.val (.ref r0), .val (.long q1), .second] [(.int (1 : Int32))])) _
        refine XS.goto X27.here hx rfl (pc0 := 29) (pc' := 33) rfl (hb hby d4_29) (by decide) (by decide) ?_
        exact k
      obtain ⟨fs, hr, hrun, hended, hW, hsame⟩ := X27.leave (v := some (.int (1 : Int32))) (fun h => by rw [Bd.returns] at h; cases h) hlk
      refine ⟨_, _, ?_, hrun, hended, _, _, rfl, ?_, ⟨_, rfl⟩, hW, hsame.mono (by decide) (by decide)⟩
      · show Steps p.tables e below (T27.setTop (mkF m 33 #[.val (.ref r0), .val (.long q1), .second] [(.int (1 : Int32))])) _
        exact retN X27 hx (t := .boolean) Bd.returns (by simp) (hb hby d4_33) hr
      · show Q4 Z r0 q1 km rx kv h0 n0 _ T27.heap _
        exact ⟨(by rw [alM, if_neg hc24, if_neg hc28]), N27, e27⟩
theorem pd_3 : parseMethodDescriptor "(J)Ljava/lang/Long;" = some ⟨[.long], some (.object "java/lang/Long")⟩ := by decide +kernel
theorem pd_4 : parseMethodDescriptor "(JLjava/lang/Long;)V" = some ⟨[.long, (.object "java/lang/Long")], none⟩ := by decide +kernel
theorem pd_5 : parseMethodDescriptor "(J)Z" = some ⟨[.long], some .boolean⟩ := by decide +kernel
theorem pd_6 : parseMethodDescriptor "(JJ)J" = some ⟨[.long, .long], some .long⟩ := by decide +kernel
theorem pn_0 : plainName "com/example/lading/lading/core/OccurrenceAllowsPinLaw" = true := by first | (simp [plainName, overriddenIn]; done) | decide +kernel
theorem ef_0 (m : MethodId) (q0 : Int64) (q1 : Int64) (q2 : Int64) (p3 : Int32) : entryFrame m #[(.long q0), (.long q1), (.long q2), (.int p3)] maxLocals = mkF m 0 #[.val (.long q0), .second, .val (.long q1), .second, .val (.long q2), .second, .val (.int p3), .unset, .unset, .unset, .unset, .unset, .unset, .unset, .unset, .unset, .unset, .unset, .unset] [] := by first | (simp [entryFrame, mkF, argsToLocals, Value.category, maxLocals]; done) | rfl
def Q0 (Z : State) (q0 : Int64) (q1 : Int64) (q2 : Int64) (p3 : Int32) (wC : Addr) (clC : Cell) (h0 : Heap) (n0 : Nat) (v : Option Value) (h : Heap) (L : List Loc) : Prop := v = some (.int (1 : Int32)) ∧ Fr n0 L
set_option maxRecDepth 65536 in
set_option maxHeartbeats 40000000 in
theorem rm0 (l : Launch) (Z : State) (a0 : Array Value) (hw : ∀ d ∈ tables_1, d.before a0 Z = true) (ws : List Jvm.Cond) (q0 : Int64) (q1 : Int64) (q2 : Int64) (p3 : Int32) (wC : Addr) (clC : Cell) (h0 : Heap) (n0 : Nat) (Z0 : n0 ≤ h0.size) (S_cache : Sta Z h0 "java/lang/Long$LongCache" "cache" "[Ljava/lang/Long;" (.ref wC)) (Ar_C : Arr Z h0 wC clC (.object "java/lang/Long")) (L_C : clC.slots.size = 256) (P_C : ∀ j : Nat, j < 256 → ∃ b : Addr, clC.slots[j]? = some (.ref b) ∧ Exa Z h0 b "java/lang/Long" ∧ Fld Z h0 b "java/lang/Long" "value" "J" (.long ((j.toInt32 - 128).toInt64))) :
    MetFree l x (head1 (Jvm.Cond.code x code maxLocals ret :: ws) room_1) (fun a U => a = #[(.long q0), (.long q1), (.long q2), (.int p3)] ∧ Z.Warmed39 U.vm ∧ U.heap = h0) (fun _ _ _ _ _ => True) (fun _ U o U' => ∃ v L, o = .returned v ∧ Q0 Z q0 q1 q2 p3 wC clC h0 n0 v U'.heap L ∧ FrameEnd U o U' L room_1.cells room_1.slots) := by
  refine MetFree.of_bodySF (plainFor_of_name pn_0) hisR ?_
  intro p e s m args below meth c s₁ Bd hml0 hP hK
  obtain ⟨rfl, hZ, hh⟩ := hP
  have hx := Bd.exec
  have hlk : meth.locks = false := BodyLoose.notSynchronized Bd
  have hby := Bd.bytes
  have hml : c.maxLocals = 19 := hml0
  have hown : s.vm.findClass "com/example/lading/lading/core/OccurrenceAllowsPinLaw" = some m.cls := findClass_of_methodNamed Bd.named
  have hnm := (name_of_methodNamed Bd.named Bd.method).1
  have X0 : Stand p l e room_1 s m #[(.long q0), (.long q1), (.long q2), (.int p3)] below meth c s₁ [] 0 0 := Stand.of_body Bd
  have e0 : s₁.heap = h0 := by rw [← hh, Bd.state]; rfl
  have N0 := Fr.nil n0
  refine own_go (A' := (s₁.setTop (mkF m 0 #[.val (.long q0), .second, .val (.long q1), .second, .val (.long q2), .second, .val (.int p3), .unset, .unset, .unset, .unset, .unset, .unset, .unset, .unset, .unset, .unset, .unset, .unset] []))) (fun t k => castTop (ef_0 m q0 q1 q2 p3) k) ?_
  refine own_go (A' := (s₁.setTop (mkF m 4 #[.val (.long q0), .second, .val (.long q1), .second, .val (.long q2), .second, .val (.int p3), .unset, .unset, .unset, .unset, .unset, .unset, .unset, .unset, .unset, .unset, .unset, .unset] [(.int (p3 &&& (1 : Int32)))]))) (fun t k => ?_) ?_
  · show Steps p.tables e below (s₁.setTop (mkF m 0 #[.val (.long q0), .second, .val (.long q1), .second, .val (.long q2), .second, .val (.int p3), .unset, .unset, .unset, .unset, .unset, .unset, .unset, .unset, .unset, .unset, .unset, .unset] [])) _
    refine XS.iload X0.here hx rfl (hb hby at_0) rfl ?_
    show Steps p.tables e below (s₁.setTop (mkF m 2 #[.val (.long q0), .second, .val (.long q1), .second, .val (.long q2), .second, .val (.int p3), .unset, .unset, .unset, .unset, .unset, .unset, .unset, .unset, .unset, .unset, .unset, .unset] [(.int p3)])) _
    refine XS.iconst X0.here hx rfl (hb hby at_2) ?_
    show Steps p.tables e below (s₁.setTop (mkF m 3 #[.val (.long q0), .second, .val (.long q1), .second, .val (.long q2), .second, .val (.int p3), .unset, .unset, .unset, .unset, .unset, .unset, .unset, .unset, .unset, .unset, .unset, .unset] [(.int (1 : Int32)), (.int p3)])) _
    refine XS.iand X0.here hx rfl (hb hby at_3) rfl ?_
    exact k
  by_cases hc29 : (p3 &&& (1 : Int32)) = (0 : Int32)
  · -- hc29: yes
    refine own_go (A' := (s₁.setTop (mkF m 11 #[.val (.long q0), .second, .val (.long q1), .second, .val (.long q2), .second, .val (.int p3), .unset, .unset, .unset, .unset, .unset, .unset, .unset, .unset, .unset, .unset, .unset, .unset] []))) (fun t k => XS.ifYes X0.here hx rfl (pc0 := 4) (pc' := 11) rfl (hb hby at_4) rfl ((if0 _ _).trans (teq hc29).1) (by decide) (by decide) k) ?_
    refine own_go (A' := (s₁.setTop (mkF m 35 #[.val (.long q0), .second, .val (.long q1), .second, .val (.long q2), .second, .val (.int p3), .val (.int (0 : Int32)), .val (.int (((p3.toUInt32 >>> ((1 : Int32) &&& 31).toUInt32).toInt32) &&& (3 : Int32))), .val (.long ((q2 &&& (3 : Int64)) - (1 : Int64))), .second, .unset, .unset, .unset, .unset, .unset, .unset, .unset, .unset] [(.int (1 : Int32)), (.int (((p3.toUInt32 >>> ((1 : Int32) &&& 31).toUInt32).toInt32) &&& (3 : Int32)))]))) (fun t k => ?_) ?_
    · show Steps p.tables e below (s₁.setTop (mkF m 11 #[.val (.long q0), .second, .val (.long q1), .second, .val (.long q2), .second, .val (.int p3), .unset, .unset, .unset, .unset, .unset, .unset, .unset, .unset, .unset, .unset, .unset, .unset] [])) _
      refine XS.iconst X0.here hx rfl (hb hby at_11) ?_
      show Steps p.tables e below (s₁.setTop (mkF m 12 #[.val (.long q0), .second, .val (.long q1), .second, .val (.long q2), .second, .val (.int p3), .unset, .unset, .unset, .unset, .unset, .unset, .unset, .unset, .unset, .unset, .unset, .unset] [(.int (0 : Int32))])) _
      refine XS.istore X0.here hx rfl (hb hby at_12) rfl (l' := #[.val (.long q0), .second, .val (.long q1), .second, .val (.long q2), .second, .val (.int p3), .val (.int (0 : Int32)), .unset, .unset, .unset, .unset, .unset, .unset, .unset, .unset, .unset, .unset, .unset]) rfl ?_
      show Steps p.tables e below (s₁.setTop (mkF m 14 #[.val (.long q0), .second, .val (.long q1), .second, .val (.long q2), .second, .val (.int p3), .val (.int (0 : Int32)), .unset, .unset, .unset, .unset, .unset, .unset, .unset, .unset, .unset, .unset, .unset] [])) _
      refine XS.iload X0.here hx rfl (hb hby at_14) rfl ?_
      show Steps p.tables e below (s₁.setTop (mkF m 16 #[.val (.long q0), .second, .val (.long q1), .second, .val (.long q2), .second, .val (.int p3), .val (.int (0 : Int32)), .unset, .unset, .unset, .unset, .unset, .unset, .unset, .unset, .unset, .unset, .unset] [(.int p3)])) _
      refine XS.iconst X0.here hx rfl (hb hby at_16) ?_
      show Steps p.tables e below (s₁.setTop (mkF m 17 #[.val (.long q0), .second, .val (.long q1), .second, .val (.long q2), .second, .val (.int p3), .val (.int (0 : Int32)), .unset, .unset, .unset, .unset, .unset, .unset, .unset, .unset, .unset, .unset, .unset] [(.int (1 : Int32)), (.int p3)])) _
      refine XS.iushr X0.here hx rfl (hb hby at_17) rfl ?_
      show Steps p.tables e below (s₁.setTop (mkF m 18 #[.val (.long q0), .second, .val (.long q1), .second, .val (.long q2), .second, .val (.int p3), .val (.int (0 : Int32)), .unset, .unset, .unset, .unset, .unset, .unset, .unset, .unset, .unset, .unset, .unset] [(.int ((p3.toUInt32 >>> ((1 : Int32) &&& 31).toUInt32).toInt32))])) _
      refine XS.iconst X0.here hx rfl (hb hby at_18) ?_
      show Steps p.tables e below (s₁.setTop (mkF m 19 #[.val (.long q0), .second, .val (.long q1), .second, .val (.long q2), .second, .val (.int p3), .val (.int (0 : Int32)), .unset, .unset, .unset, .unset, .unset, .unset, .unset, .unset, .unset, .unset, .unset] [(.int (3 : Int32)), (.int ((p3.toUInt32 >>> ((1 : Int32) &&& 31).toUInt32).toInt32))])) _
      refine XS.iand X0.here hx rfl (hb hby at_19) rfl ?_
      show Steps p.tables e below (s₁.setTop (mkF m 20 #[.val (.long q0), .second, .val (.long q1), .second, .val (.long q2), .second, .val (.int p3), .val (.int (0 : Int32)), .unset, .unset, .unset, .unset, .unset, .unset, .unset, .unset, .unset, .unset, .unset] [(.int (((p3.toUInt32 >>> ((1 : Int32) &&& 31).toUInt32).toInt32) &&& (3 : Int32)))])) _
      refine XS.istore X0.here hx rfl (hb hby at_20) rfl (l' := #[.val (.long q0), .second, .val (.long q1), .second, .val (.long q2), .second, .val (.int p3), .val (.int (0 : Int32)), .val (.int (((p3.toUInt32 >>> ((1 : Int32) &&& 31).toUInt32).toInt32) &&& (3 : Int32))), .unset, .unset, .unset, .unset, .unset, .unset, .unset, .unset, .unset, .unset]) rfl ?_
      show Steps p.tables e below (s₁.setTop (mkF m 22 #[.val (.long q0), .second, .val (.long q1), .second, .val (.long q2), .second, .val (.int p3), .val (.int (0 : Int32)), .val (.int (((p3.toUInt32 >>> ((1 : Int32) &&& 31).toUInt32).toInt32) &&& (3 : Int32))), .unset, .unset, .unset, .unset, .unset, .unset, .unset, .unset, .unset, .unset] [])) _
      refine XS.lload X0.here hx rfl (hb hby at_22) rfl ?_
      show Steps p.tables e below (s₁.setTop (mkF m 24 #[.val (.long q0), .second, .val (.long q1), .second, .val (.long q2), .second, .val (.int p3), .val (.int (0 : Int32)), .val (.int (((p3.toUInt32 >>> ((1 : Int32) &&& 31).toUInt32).toInt32) &&& (3 : Int32))), .unset, .unset, .unset, .unset, .unset, .unset, .unset, .unset, .unset, .unset] [(.long q2)])) _
      refine X0.ldc2Long hx hown (mvT hZ (hw _ (List.mem_of_getElem? (i := 0) rfl))) (g := (mkF m 24 #[.val (.long q0), .second, .val (.long q1), .second, .val (.long q2), .second, .val (.int p3), .val (.int (0 : Int32)), .val (.int (((p3.toUInt32 >>> ((1 : Int32) &&& 31).toUInt32).toInt32) &&& (3 : Int32))), .unset, .unset, .unset, .unset, .unset, .unset, .unset, .unset, .unset, .unset] [(.long q2)])) rfl (hb hby at_24) _ ?_
      show Steps p.tables e below (s₁.setTop (mkF m 27 #[.val (.long q0), .second, .val (.long q1), .second, .val (.long q2), .second, .val (.int p3), .val (.int (0 : Int32)), .val (.int (((p3.toUInt32 >>> ((1 : Int32) &&& 31).toUInt32).toInt32) &&& (3 : Int32))), .unset, .unset, .unset, .unset, .unset, .unset, .unset, .unset, .unset, .unset] [(.long (3 : Int64)), (.long q2)])) _
      refine XS.land X0.here hx rfl (hb hby at_27) rfl ?_
      show Steps p.tables e below (s₁.setTop (mkF m 28 #[.val (.long q0), .second, .val (.long q1), .second, .val (.long q2), .second, .val (.int p3), .val (.int (0 : Int32)), .val (.int (((p3.toUInt32 >>> ((1 : Int32) &&& 31).toUInt32).toInt32) &&& (3 : Int32))), .unset, .unset, .unset, .unset, .unset, .unset, .unset, .unset, .unset, .unset] [(.long (q2 &&& (3 : Int64)))])) _
      refine XS.lconst X0.here hx rfl (hb hby at_28) ?_
      show Steps p.tables e below (s₁.setTop (mkF m 29 #[.val (.long q0), .second, .val (.long q1), .second, .val (.long q2), .second, .val (.int p3), .val (.int (0 : Int32)), .val (.int (((p3.toUInt32 >>> ((1 : Int32) &&& 31).toUInt32).toInt32) &&& (3 : Int32))), .unset, .unset, .unset, .unset, .unset, .unset, .unset, .unset, .unset, .unset] [(.long (1 : Int64)), (.long (q2 &&& (3 : Int64)))])) _
      refine XS.lsub X0.here hx rfl (hb hby at_29) rfl ?_
      show Steps p.tables e below (s₁.setTop (mkF m 30 #[.val (.long q0), .second, .val (.long q1), .second, .val (.long q2), .second, .val (.int p3), .val (.int (0 : Int32)), .val (.int (((p3.toUInt32 >>> ((1 : Int32) &&& 31).toUInt32).toInt32) &&& (3 : Int32))), .unset, .unset, .unset, .unset, .unset, .unset, .unset, .unset, .unset, .unset] [(.long ((q2 &&& (3 : Int64)) - (1 : Int64)))])) _
      refine XS.lstore X0.here hx rfl (hb hby at_30) rfl (l' := #[.val (.long q0), .second, .val (.long q1), .second, .val (.long q2), .second, .val (.int p3), .val (.int (0 : Int32)), .val (.int (((p3.toUInt32 >>> ((1 : Int32) &&& 31).toUInt32).toInt32) &&& (3 : Int32))), .val (.long ((q2 &&& (3 : Int64)) - (1 : Int64))), .second, .unset, .unset, .unset, .unset, .unset, .unset, .unset, .unset]) rfl ?_
      show Steps p.tables e below (s₁.setTop (mkF m 32 #[.val (.long q0), .second, .val (.long q1), .second, .val (.long q2), .second, .val (.int p3), .val (.int (0 : Int32)), .val (.int (((p3.toUInt32 >>> ((1 : Int32) &&& 31).toUInt32).toInt32) &&& (3 : Int32))), .val (.long ((q2 &&& (3 : Int64)) - (1 : Int64))), .second, .unset, .unset, .unset, .unset, .unset, .unset, .unset, .unset] [])) _
      refine XS.iload X0.here hx rfl (hb hby at_32) rfl ?_
      show Steps p.tables e below (s₁.setTop (mkF m 34 #[.val (.long q0), .second, .val (.long q1), .second, .val (.long q2), .second, .val (.int p3), .val (.int (0 : Int32)), .val (.int (((p3.toUInt32 >>> ((1 : Int32) &&& 31).toUInt32).toInt32) &&& (3 : Int32))), .val (.long ((q2 &&& (3 : Int64)) - (1 : Int64))), .second, .unset, .unset, .unset, .unset, .unset, .unset, .unset, .unset] [(.int (((p3.toUInt32 >>> ((1 : Int32) &&& 31).toUInt32).toInt32) &&& (3 : Int32)))])) _
      refine XS.iconst X0.here hx rfl (hb hby at_34) ?_
      exact k
    by_cases hc30 : (((p3.toUInt32 >>> ((1 : Int32) &&& 31).toUInt32).toInt32) &&& (3 : Int32)) = (1 : Int32)
    · -- hc30: yes
      refine own_go (A' := (s₁.setTop (mkF m 38 #[.val (.long q0), .second, .val (.long q1), .second, .val (.long q2), .second, .val (.int p3), .val (.int (0 : Int32)), .val (.int (((p3.toUInt32 >>> ((1 : Int32) &&& 31).toUInt32).toInt32) &&& (3 : Int32))), .val (.long ((q2 &&& (3 : Int64)) - (1 : Int64))), .second, .unset, .unset, .unset, .unset, .unset, .unset, .unset, .unset] []))) (fun t k => XS.icmpNo X0.here hx rfl (hb hby at_35) rfl (teq hc30).2 k) ?_
      refine own_go (A' := (s₁.setTop (mkF m 68 #[.val (.long q0), .second, .val (.long q1), .second, .val (.long q2), .second, .val (.int p3), .val (.int (0 : Int32)), .val (.int (((p3.toUInt32 >>> ((1 : Int32) &&& 31).toUInt32).toInt32) &&& (3 : Int32))), .val (.long ((q2 &&& (3 : Int64)) - (1 : Int64))), .second, .val (.long (q0 + ((q2 &&& (3 : Int64)) - (1 : Int64)))), .second, .unset, .unset, .unset, .unset, .unset, .unset] [(.int (0 : Int32))]))) (fun t k => ?_) ?_
      · show Steps p.tables e below (s₁.setTop (mkF m 38 #[.val (.long q0), .second, .val (.long q1), .second, .val (.long q2), .second, .val (.int p3), .val (.int (0 : Int32)), .val (.int (((p3.toUInt32 >>> ((1 : Int32) &&& 31).toUInt32).toInt32) &&& (3 : Int32))), .val (.long ((q2 &&& (3 : Int64)) - (1 : Int64))), .second, .unset, .unset, .unset, .unset, .unset, .unset, .unset, .unset] [])) _
        refine XS.lloadN X0.here hx rfl (hb hby at_38) rfl ?_
        show Steps p.tables e below (s₁.setTop (mkF m 39 #[.val (.long q0), .second, .val (.long q1), .second, .val (.long q2), .second, .val (.int p3), .val (.int (0 : Int32)), .val (.int (((p3.toUInt32 >>> ((1 : Int32) &&& 31).toUInt32).toInt32) &&& (3 : Int32))), .val (.long ((q2 &&& (3 : Int64)) - (1 : Int64))), .second, .unset, .unset, .unset, .unset, .unset, .unset, .unset, .unset] [(.long q0)])) _
        refine XS.lload X0.here hx rfl (hb hby at_39) rfl ?_
        show Steps p.tables e below (s₁.setTop (mkF m 41 #[.val (.long q0), .second, .val (.long q1), .second, .val (.long q2), .second, .val (.int p3), .val (.int (0 : Int32)), .val (.int (((p3.toUInt32 >>> ((1 : Int32) &&& 31).toUInt32).toInt32) &&& (3 : Int32))), .val (.long ((q2 &&& (3 : Int64)) - (1 : Int64))), .second, .unset, .unset, .unset, .unset, .unset, .unset, .unset, .unset] [(.long ((q2 &&& (3 : Int64)) - (1 : Int64))), (.long q0)])) _
        refine XS.ladd X0.here hx rfl (hb hby at_41) rfl ?_
        show Steps p.tables e below (s₁.setTop (mkF m 42 #[.val (.long q0), .second, .val (.long q1), .second, .val (.long q2), .second, .val (.int p3), .val (.int (0 : Int32)), .val (.int (((p3.toUInt32 >>> ((1 : Int32) &&& 31).toUInt32).toInt32) &&& (3 : Int32))), .val (.long ((q2 &&& (3 : Int64)) - (1 : Int64))), .second, .unset, .unset, .unset, .unset, .unset, .unset, .unset, .unset] [(.long (q0 + ((q2 &&& (3 : Int64)) - (1 : Int64))))])) _
        refine XS.lstore X0.here hx rfl (hb hby at_42) rfl (l' := #[.val (.long q0), .second, .val (.long q1), .second, .val (.long q2), .second, .val (.int p3), .val (.int (0 : Int32)), .val (.int (((p3.toUInt32 >>> ((1 : Int32) &&& 31).toUInt32).toInt32) &&& (3 : Int32))), .val (.long ((q2 &&& (3 : Int64)) - (1 : Int64))), .second, .val (.long (q0 + ((q2 &&& (3 : Int64)) - (1 : Int64)))), .second, .unset, .unset, .unset, .unset, .unset, .unset]) rfl ?_
        show Steps p.tables e below (s₁.setTop (mkF m 44 #[.val (.long q0), .second, .val (.long q1), .second, .val (.long q2), .second, .val (.int p3), .val (.int (0 : Int32)), .val (.int (((p3.toUInt32 >>> ((1 : Int32) &&& 31).toUInt32).toInt32) &&& (3 : Int32))), .val (.long ((q2 &&& (3 : Int64)) - (1 : Int64))), .second, .val (.long (q0 + ((q2 &&& (3 : Int64)) - (1 : Int64)))), .second, .unset, .unset, .unset, .unset, .unset, .unset] [])) _
        refine XS.goto X0.here hx rfl (pc0 := 44) (pc' := 66) rfl (hb hby at_44) (by decide) (by decide) ?_
        show Steps p.tables e below (s₁.setTop (mkF m 66 #[.val (.long q0), .second, .val (.long q1), .second, .val (.long q2), .second, .val (.int p3), .val (.int (0 : Int32)), .val (.int (((p3.toUInt32 >>> ((1 : Int32) &&& 31).toUInt32).toInt32) &&& (3 : Int32))), .val (.long ((q2 &&& (3 : Int64)) - (1 : Int64))), .second, .val (.long (q0 + ((q2 &&& (3 : Int64)) - (1 : Int64)))), .second, .unset, .unset, .unset, .unset, .unset, .unset] [])) _
        refine XS.iload X0.here hx rfl (hb hby at_66) rfl ?_
        exact k
      refine own_go (A' := (s₁.setTop (mkF m 75 #[.val (.long q0), .second, .val (.long q1), .second, .val (.long q2), .second, .val (.int p3), .val (.int (0 : Int32)), .val (.int (((p3.toUInt32 >>> ((1 : Int32) &&& 31).toUInt32).toInt32) &&& (3 : Int32))), .val (.long ((q2 &&& (3 : Int64)) - (1 : Int64))), .second, .val (.long (q0 + ((q2 &&& (3 : Int64)) - (1 : Int64)))), .second, .unset, .unset, .unset, .unset, .unset, .unset] []))) (fun t k => XS.ifYes X0.here hx rfl (pc0 := 68) (pc' := 75) rfl (hb hby at_68) rfl ((if0 _ _).trans (teq (by decide : (0 : Int32) = (0 : Int32))).1) (by decide) (by decide) k) ?_
      obtain ⟨_, _, ⟨T31, L31, k31, n31⟩, -, X31, ⟨Lc31, hQ31, l31, y31, z31⟩, st31⟩ := Jvm.LawKit.callS X0 hx (y := (⟨"java/lang/Long", "valueOf", "(J)Ljava/lang/Long;"⟩ : MethodName)) hown (mvT hZ (hw _ (List.mem_of_getElem? (i := 1) rfl))) (mvT hZ (hw _ (List.mem_of_getElem? (i := 2) rfl))) (mvT hZ (hw _ (List.mem_of_getElem? (i := 3) rfl))) (mvT hZ (hw _ (List.mem_of_getElem? (i := 4) rfl))) (by decide) (backOf (W := 0) (rm1 l Z a0 hw [] q1 wC clC h0 n0 Z0 S_cache Ar_C L_C P_C) hZ (hw _ (List.mem_of_getElem? (i := 4) rfl)) (hw _ (List.mem_of_getElem? (i := 3) rfl)) (by decide) (by decide)) (g := (mkF m 76 #[.val (.long q0), .second, .val (.long q1), .second, .val (.long q2), .second, .val (.int p3), .val (.int (0 : Int32)), .val (.int (((p3.toUInt32 >>> ((1 : Int32) &&& 31).toUInt32).toInt32) &&& (3 : Int32))), .val (.long ((q2 &&& (3 : Int64)) - (1 : Int64))), .second, .val (.long (q0 + ((q2 &&& (3 : Int64)) - (1 : Int64)))), .second, .unset, .unset, .unset, .unset, .unset, .unset] [(.long q1)])) rfl (by rw [hml]; rfl) (argsL := [(.long q1)]) (rest := []) (lenOf pd_3 rfl) rfl (by show 2 * 0 + _ ≤ _; exact Nat.le_of_eq rfl) (hb hby at_76) (fun _ _ => ⟨rfl, e0, (by decide : 0 + 1 ≤ _), (by decide : 0 + 1 ≤ _)⟩)
      dsimp only [Pt.U, Pt.locs, Pt.cells, Pt.slots] at X31 l31 y31 z31 st31 hQ31
      subst l31 y31 z31
      obtain ⟨c31, rfl, N31q, K31q, E31q, F31q⟩ := hQ31
      have N31 := Fr.app N0 N31q
      have K31 : Keep h0 T31.heap [] := (Keep.refl h0 []).trans K31q all0
      have B31 : Ext h0 T31.heap := own_keep_ext K31
      obtain ⟨T32, h32, X32, e32, E32, A32, D32, -, st32⟩ := newO X31 hx hZ hown (hw _ (List.mem_of_getElem? (i := 9) rfl)) (hw _ (List.mem_of_getElem? (i := 10) rfl)) (hw _ (List.mem_of_getElem? (i := 11) rfl)) rfl (g := (mkF m 81 #[.val (.long q0), .second, .val (.long q1), .second, .val (.long q2), .second, .val (.int p3), .val (.int (0 : Int32)), .val (.int (((p3.toUInt32 >>> ((1 : Int32) &&& 31).toUInt32).toInt32) &&& (3 : Int32))), .val (.long ((q2 &&& (3 : Int64)) - (1 : Int64))), .second, .val (.long (q0 + ((q2 &&& (3 : Int64)) - (1 : Int64)))), .second, .val (.ref c31), .unset, .unset, .unset, .unset, .unset] [])) rfl (hb hby at_81) (by decide) (by decide)
      obtain ⟨b32, g32⟩ : ∃ z, z = T31.heap.size := ⟨_, rfl⟩
      have sz_b32 : h0.size ≤ b32 := Nat.le_trans K31.1 (Nat.le_of_eq g32.symm)
      have ne_c31_b32 : c31 ≠ b32 := Nat.ne_of_lt (Nat.lt_of_lt_of_le E31q.lt (Nat.le_of_eq g32.symm))
      rw [← g32] at A32 D32 st32
      have K32 : Keep h0 h32 [] := K31.ext E32
      have B32 : Ext h0 h32 := own_keep_ext K32
      have F32_min : Fld Z h32 b32 "com/example/lading/lading/core/Occurrence" "min" "J" (.long (0 : Int64)) := D32 (Or.inr (hw _ (List.mem_of_getElem? (i := 19) rfl))) (ty := .long) (by decide)
      have F32_max : Fld Z h32 b32 "com/example/lading/lading/core/Occurrence" "max" "Ljava/lang/Long;" .null := D32 (Or.inr (hw _ (List.mem_of_getElem? (i := 21) rfl))) (ty := (.object "java/lang/Long")) (by decide)
      obtain ⟨_, _, ⟨T33, L33, k33, n33⟩, -, X33, ⟨Lc33, hQ33, l33, y33, z33⟩, st33⟩ := X32.specialBack hx (y := (⟨"com/example/lading/lading/core/Occurrence", "<init>", "(JLjava/lang/Long;)V"⟩ : MethodName)) rfl hown (mvT hZ (hw _ (List.mem_of_getElem? (i := 12) rfl))) (mvT hZ (hw _ (List.mem_of_getElem? (i := 13) rfl))) (mvT hZ (hw _ (List.mem_of_getElem? (i := 14) rfl))) (by decide) (backOf (W := 1) (rm2 l Z a0 hw [] b32 q0 c31  h32 n0 (Nat.le_trans Z0 K32.1) A32 F32_min F32_max (Nat.le_trans Z0 sz_b32)) hZ (hw _ (List.mem_of_getElem? (i := 14) rfl)) (hw _ (List.mem_of_getElem? (i := 11) rfl)) (by decide) (by decide)) (g := (mkF m 88 #[.val (.long q0), .second, .val (.long q1), .second, .val (.long q2), .second, .val (.int p3), .val (.int (0 : Int32)), .val (.int (((p3.toUInt32 >>> ((1 : Int32) &&& 31).toUInt32).toInt32) &&& (3 : Int32))), .val (.long ((q2 &&& (3 : Int64)) - (1 : Int64))), .second, .val (.long (q0 + ((q2 &&& (3 : Int64)) - (1 : Int64)))), .second, .val (.ref c31), .unset, .unset, .unset, .unset, .unset] [(.ref c31), (.long q0), (.ref b32), (.ref b32)])) rfl (by rw [hml]; rfl) (Steps.refl _) (a := b32) (argsL := [(.long q0), (.ref c31)]) (rest := [(.ref b32)]) (lenOf pd_4 rfl) rfl (by show 2 * 0 + _ ≤ _; exact Nat.le_of_eq rfl) (hb hby at_88) (fun _ _ => ⟨rfl, e32, (by decide : 2 + 0 ≤ _), (by decide : 3 + 0 ≤ _)⟩)
      dsimp only [Pt.U, Pt.locs, Pt.cells, Pt.slots] at X33 l33 y33 z33 st33 hQ33
      subst l33 y33 z33
      obtain ⟨rfl, N33q, K33q, E33q, F33q, G33q⟩ := hQ33
      have N33 := Fr.app N31 N33q
      have K33 : Keep h0 T33.heap [] := K32.trans K33q (allS (Or.inr sz_b32) all0)
      have B33 : Ext h0 T33.heap := own_keep_ext K33
      obtain ⟨cq34, kq34, q34a, q34b, q34c⟩ := isOf hZ rfl E33q
      obtain ⟨_, _, ⟨T34, L34, k34, n34⟩, -, X34, ⟨Lc34, hQ34, l34, y34, z34⟩, st34⟩ := X33.virtualBack hx (y := (⟨"com/example/lading/lading/core/Occurrence", "allows", "(J)Z"⟩ : MethodName)) (z := (⟨"com/example/lading/lading/core/Occurrence", "allows", "(J)Z"⟩ : MethodName)) hown (mvT hZ (hw _ (List.mem_of_getElem? (i := 22) rfl))) (mvT hZ (hw _ (List.mem_of_getElem? (i := 23) rfl))) (notFace_of_selects (args := #[]) (mvT hZ (hw _ (List.mem_of_getElem? (i := 25) rfl)))) (mvT hZ (hw _ (List.mem_of_getElem? (i := 25) rfl))) (mvT hZ (hw _ (List.mem_of_getElem? (i := 24) rfl))) (by decide) (backOf (W := 0) (rm4 l Z a0 hw [] b32 (q0 + ((q2 &&& (3 : Int64)) - (1 : Int64))) q0 c31 q1 T33.heap n0 (Nat.le_trans Z0 K33.1) F33q G33q ((E31q.ext E32).keep K33q) ((F31q.ext E32).keep K33q (ninS ne_c31_b32 nin0))) hZ (hw _ (List.mem_of_getElem? (i := 26) rfl)) (hw _ (List.mem_of_getElem? (i := 11) rfl)) (by decide) (by decide)) q34a q34c (g := (mkF m 97 #[.val (.long q0), .second, .val (.long q1), .second, .val (.long q2), .second, .val (.int p3), .val (.int (0 : Int32)), .val (.int (((p3.toUInt32 >>> ((1 : Int32) &&& 31).toUInt32).toInt32) &&& (3 : Int32))), .val (.long ((q2 &&& (3 : Int64)) - (1 : Int64))), .second, .val (.long (q0 + ((q2 &&& (3 : Int64)) - (1 : Int64)))), .second, .val (.ref c31), .val (.ref b32), .unset, .unset, .unset, .unset] [(.long (q0 + ((q2 &&& (3 : Int64)) - (1 : Int64)))), (.ref b32)])) rfl (by rw [hml]; rfl) (Steps.refl _) (argsL := [(.long (q0 + ((q2 &&& (3 : Int64)) - (1 : Int64))))]) (rest := []) (lenOf pd_5 rfl) rfl (by show 2 * 0 + _ ≤ _; exact Nat.le_of_eq rfl) (hb hby at_97) (fun _ _ => ⟨rfl, rfl, (by decide : 2 + 0 ≤ _), (by decide : 3 + 0 ≤ _)⟩)
      dsimp only [Pt.U, Pt.locs, Pt.cells, Pt.slots] at X34 l34 y34 z34 st34 hQ34
      subst l34 y34 z34
      obtain ⟨rfl, N34q, e34⟩ := hQ34
      have N34 := Fr.app N33 N34q
      refine own_go (A' := (T34.setTop (mkF m 104 #[.val (.long q0), .second, .val (.long q1), .second, .val (.long q2), .second, .val (.int p3), .val (.int (0 : Int32)), .val (.int (((p3.toUInt32 >>> ((1 : Int32) &&& 31).toUInt32).toInt32) &&& (3 : Int32))), .val (.long ((q2 &&& (3 : Int64)) - (1 : Int64))), .second, .val (.long (q0 + ((q2 &&& (3 : Int64)) - (1 : Int64)))), .second, .val (.ref c31), .val (.ref b32), .val (.int (alM q0 q1 (q0 + ((q2 &&& (3 : Int64)) - (1 : Int64))))), .unset, .unset, .unset] [(.int (0 : Int32))]))) (fun t k => ?_) ?_
      · show Steps p.tables e below (s₁.setTop (mkF m 75 #[.val (.long q0), .second, .val (.long q1), .second, .val (.long q2), .second, .val (.int p3), .val (.int (0 : Int32)), .val (.int (((p3.toUInt32 >>> ((1 : Int32) &&& 31).toUInt32).toInt32) &&& (3 : Int32))), .val (.long ((q2 &&& (3 : Int64)) - (1 : Int64))), .second, .val (.long (q0 + ((q2 &&& (3 : Int64)) - (1 : Int64)))), .second, .unset, .unset, .unset, .unset, .unset, .unset] [])) _
        refine XS.lloadN X0.here hx rfl (hb hby at_75) rfl ?_
        show Steps p.tables e below (s₁.setTop (mkF m 76 #[.val (.long q0), .second, .val (.long q1), .second, .val (.long q2), .second, .val (.int p3), .val (.int (0 : Int32)), .val (.int (((p3.toUInt32 >>> ((1 : Int32) &&& 31).toUInt32).toInt32) &&& (3 : Int32))), .val (.long ((q2 &&& (3 : Int64)) - (1 : Int64))), .second, .val (.long (q0 + ((q2 &&& (3 : Int64)) - (1 : Int64)))), .second, .unset, .unset, .unset, .unset, .unset, .unset] [(.long q1)])) _
        refine st31 _ ?_
        show Steps p.tables e below (T31.setTop (mkF m 79 #[.val (.long q0), .second, .val (.long q1), .second, .val (.long q2), .second, .val (.int p3), .val (.int (0 : Int32)), .val (.int (((p3.toUInt32 >>> ((1 : Int32) &&& 31).toUInt32).toInt32) &&& (3 : Int32))), .val (.long ((q2 &&& (3 : Int64)) - (1 : Int64))), .second, .val (.long (q0 + ((q2 &&& (3 : Int64)) - (1 : Int64)))), .second, .unset, .unset, .unset, .unset, .unset, .unset] [(.ref c31)])) _
        refine XS.astore X31.here hx rfl (hb hby at_79) rfl rfl (l' := #[.val (.long q0), .second, .val (.long q1), .second, .val (.long q2), .second, .val (.int p3), .val (.int (0 : Int32)), .val (.int (((p3.toUInt32 >>> ((1 : Int32) &&& 31).toUInt32).toInt32) &&& (3 : Int32))), .val (.long ((q2 &&& (3 : Int64)) - (1 : Int64))), .second, .val (.long (q0 + ((q2 &&& (3 : Int64)) - (1 : Int64)))), .second, .val (.ref c31), .unset, .unset, .unset, .unset, .unset]) rfl ?_
        show Steps p.tables e below (T31.setTop (mkF m 81 #[.val (.long q0), .second, .val (.long q1), .second, .val (.long q2), .second, .val (.int p3), .val (.int (0 : Int32)), .val (.int (((p3.toUInt32 >>> ((1 : Int32) &&& 31).toUInt32).toInt32) &&& (3 : Int32))), .val (.long ((q2 &&& (3 : Int64)) - (1 : Int64))), .second, .val (.long (q0 + ((q2 &&& (3 : Int64)) - (1 : Int64)))), .second, .val (.ref c31), .unset, .unset, .unset, .unset, .unset] [])) _
        refine st32 _ ?_
        show Steps p.tables e below (T32.setTop (mkF m 84 #[.val (.long q0), .second, .val (.long q1), .second, .val (.long q2), .second, .val (.int p3), .val (.int (0 : Int32)), .val (.int (((p3.toUInt32 >>> ((1 : Int32) &&& 31).toUInt32).toInt32) &&& (3 : Int32))), .val (.long ((q2 &&& (3 : Int64)) - (1 : Int64))), .second, .val (.long (q0 + ((q2 &&& (3 : Int64)) - (1 : Int64)))), .second, .val (.ref c31), .unset, .unset, .unset, .unset, .unset] [(.ref b32)])) _
        refine XS.dup X32.here hx rfl (hb hby at_84) rfl rfl ?_
        show Steps p.tables e below (T32.setTop (mkF m 85 #[.val (.long q0), .second, .val (.long q1), .second, .val (.long q2), .second, .val (.int p3), .val (.int (0 : Int32)), .val (.int (((p3.toUInt32 >>> ((1 : Int32) &&& 31).toUInt32).toInt32) &&& (3 : Int32))), .val (.long ((q2 &&& (3 : Int64)) - (1 : Int64))), .second, .val (.long (q0 + ((q2 &&& (3 : Int64)) - (1 : Int64)))), .second, .val (.ref c31), .unset, .unset, .unset, .unset, .unset] [(.ref b32), (.ref b32)])) _
        refine XS.lloadN X32.here hx rfl (hb hby at_85) rfl ?_
        show Steps p.tables e below (T32.setTop (mkF m 86 #[.val (.long q0), .second, .val (.long q1), .second, .val (.long q2), .second, .val (.int p3), .val (.int (0 : Int32)), .val (.int (((p3.toUInt32 >>> ((1 : Int32) &&& 31).toUInt32).toInt32) &&& (3 : Int32))), .val (.long ((q2 &&& (3 : Int64)) - (1 : Int64))), .second, .val (.long (q0 + ((q2 &&& (3 : Int64)) - (1 : Int64)))), .second, .val (.ref c31), .unset, .unset, .unset, .unset, .unset] [(.long q0), (.ref b32), (.ref b32)])) _
        refine XS.aload X32.here hx rfl (hb hby at_86) rfl rfl ?_
        show Steps p.tables e below (T32.setTop (mkF m 88 #[.val (.long q0), .second, .val (.long q1), .second, .val (.long q2), .second, .val (.int p3), .val (.int (0 : Int32)), .val (.int (((p3.toUInt32 >>> ((1 : Int32) &&& 31).toUInt32).toInt32) &&& (3 : Int32))), .val (.long ((q2 &&& (3 : Int64)) - (1 : Int64))), .second, .val (.long (q0 + ((q2 &&& (3 : Int64)) - (1 : Int64)))), .second, .val (.ref c31), .unset, .unset, .unset, .unset, .unset] [(.ref c31), (.long q0), (.ref b32), (.ref b32)])) _
        refine st33.trans ?_
        show Steps p.tables e below (T33.setTop (mkF m 91 #[.val (.long q0), .second, .val (.long q1), .second, .val (.long q2), .second, .val (.int p3), .val (.int (0 : Int32)), .val (.int (((p3.toUInt32 >>> ((1 : Int32) &&& 31).toUInt32).toInt32) &&& (3 : Int32))), .val (.long ((q2 &&& (3 : Int64)) - (1 : Int64))), .second, .val (.long (q0 + ((q2 &&& (3 : Int64)) - (1 : Int64)))), .second, .val (.ref c31), .unset, .unset, .unset, .unset, .unset] [(.ref b32)])) _
        refine XS.astore X33.here hx rfl (hb hby at_91) rfl rfl (l' := #[.val (.long q0), .second, .val (.long q1), .second, .val (.long q2), .second, .val (.int p3), .val (.int (0 : Int32)), .val (.int (((p3.toUInt32 >>> ((1 : Int32) &&& 31).toUInt32).toInt32) &&& (3 : Int32))), .val (.long ((q2 &&& (3 : Int64)) - (1 : Int64))), .second, .val (.long (q0 + ((q2 &&& (3 : Int64)) - (1 : Int64)))), .second, .val (.ref c31), .val (.ref b32), .unset, .unset, .unset, .unset]) rfl ?_
        show Steps p.tables e below (T33.setTop (mkF m 93 #[.val (.long q0), .second, .val (.long q1), .second, .val (.long q2), .second, .val (.int p3), .val (.int (0 : Int32)), .val (.int (((p3.toUInt32 >>> ((1 : Int32) &&& 31).toUInt32).toInt32) &&& (3 : Int32))), .val (.long ((q2 &&& (3 : Int64)) - (1 : Int64))), .second, .val (.long (q0 + ((q2 &&& (3 : Int64)) - (1 : Int64)))), .second, .val (.ref c31), .val (.ref b32), .unset, .unset, .unset, .unset] [])) _
        refine XS.aload X33.here hx rfl (hb hby at_93) rfl rfl ?_
        show Steps p.tables e below (T33.setTop (mkF m 95 #[.val (.long q0), .second, .val (.long q1), .second, .val (.long q2), .second, .val (.int p3), .val (.int (0 : Int32)), .val (.int (((p3.toUInt32 >>> ((1 : Int32) &&& 31).toUInt32).toInt32) &&& (3 : Int32))), .val (.long ((q2 &&& (3 : Int64)) - (1 : Int64))), .second, .val (.long (q0 + ((q2 &&& (3 : Int64)) - (1 : Int64)))), .second, .val (.ref c31), .val (.ref b32), .unset, .unset, .unset, .unset] [(.ref b32)])) _
        refine XS.lload X33.here hx rfl (hb hby at_95) rfl ?_
        show Steps p.tables e below (T33.setTop (mkF m 97 #[.val (.long q0), .second, .val (.long q1), .second, .val (.long q2), .second, .val (.int p3), .val (.int (0 : Int32)), .val (.int (((p3.toUInt32 >>> ((1 : Int32) &&& 31).toUInt32).toInt32) &&& (3 : Int32))), .val (.long ((q2 &&& (3 : Int64)) - (1 : Int64))), .second, .val (.long (q0 + ((q2 &&& (3 : Int64)) - (1 : Int64)))), .second, .val (.ref c31), .val (.ref b32), .unset, .unset, .unset, .unset] [(.long (q0 + ((q2 &&& (3 : Int64)) - (1 : Int64)))), (.ref b32)])) _
        refine st34.trans ?_
        show Steps p.tables e below (T34.setTop (mkF m 100 #[.val (.long q0), .second, .val (.long q1), .second, .val (.long q2), .second, .val (.int p3), .val (.int (0 : Int32)), .val (.int (((p3.toUInt32 >>> ((1 : Int32) &&& 31).toUInt32).toInt32) &&& (3 : Int32))), .val (.long ((q2 &&& (3 : Int64)) - (1 : Int64))), .second, .val (.long (q0 + ((q2 &&& (3 : Int64)) - (1 : Int64)))), .second, .val (.ref c31), .val (.ref b32), .unset, .unset, .unset, .unset] [(.int (alM q0 q1 (q0 + ((q2 &&& (3 : Int64)) - (1 : Int64)))))])) _
        refine XS.istore X34.here hx rfl (hb hby at_100) rfl (l' := #[.val (.long q0), .second, .val (.long q1), .second, .val (.long q2), .second, .val (.int p3), .val (.int (0 : Int32)), .val (.int (((p3.toUInt32 >>> ((1 : Int32) &&& 31).toUInt32).toInt32) &&& (3 : Int32))), .val (.long ((q2 &&& (3 : Int64)) - (1 : Int64))), .second, .val (.long (q0 + ((q2 &&& (3 : Int64)) - (1 : Int64)))), .second, .val (.ref c31), .val (.ref b32), .val (.int (alM q0 q1 (q0 + ((q2 &&& (3 : Int64)) - (1 : Int64))))), .unset, .unset, .unset]) rfl ?_
        show Steps p.tables e below (T34.setTop (mkF m 102 #[.val (.long q0), .second, .val (.long q1), .second, .val (.long q2), .second, .val (.int p3), .val (.int (0 : Int32)), .val (.int (((p3.toUInt32 >>> ((1 : Int32) &&& 31).toUInt32).toInt32) &&& (3 : Int32))), .val (.long ((q2 &&& (3 : Int64)) - (1 : Int64))), .second, .val (.long (q0 + ((q2 &&& (3 : Int64)) - (1 : Int64)))), .second, .val (.ref c31), .val (.ref b32), .val (.int (alM q0 q1 (q0 + ((q2 &&& (3 : Int64)) - (1 : Int64))))), .unset, .unset, .unset] [])) _
        refine XS.iload X34.here hx rfl (hb hby at_102) rfl ?_
        exact k
      refine own_go (A' := (T34.setTop (mkF m 113 #[.val (.long q0), .second, .val (.long q1), .second, .val (.long q2), .second, .val (.int p3), .val (.int (0 : Int32)), .val (.int (((p3.toUInt32 >>> ((1 : Int32) &&& 31).toUInt32).toInt32) &&& (3 : Int32))), .val (.long ((q2 &&& (3 : Int64)) - (1 : Int64))), .second, .val (.long (q0 + ((q2 &&& (3 : Int64)) - (1 : Int64)))), .second, .val (.ref c31), .val (.ref b32), .val (.int (alM q0 q1 (q0 + ((q2 &&& (3 : Int64)) - (1 : Int64))))), .unset, .unset, .unset] []))) (fun t k => XS.ifYes X34.here hx rfl (pc0 := 104) (pc' := 113) rfl (hb hby at_104) rfl ((if0 _ _).trans (teq (by decide : (0 : Int32) = (0 : Int32))).1) (by decide) (by decide) k) ?_
      refine own_go (A' := (T34.setTop (mkF m 120 #[.val (.long q0), .second, .val (.long q1), .second, .val (.long q2), .second, .val (.int p3), .val (.int (0 : Int32)), .val (.int (((p3.toUInt32 >>> ((1 : Int32) &&& 31).toUInt32).toInt32) &&& (3 : Int32))), .val (.long ((q2 &&& (3 : Int64)) - (1 : Int64))), .second, .val (.long (q0 + ((q2 &&& (3 : Int64)) - (1 : Int64)))), .second, .val (.ref c31), .val (.ref b32), .val (.int (alM q0 q1 (q0 + ((q2 &&& (3 : Int64)) - (1 : Int64))))), .val (.long q1), .second, .unset] [(.int (lcmpW q0 q1))]))) (fun t k => ?_) ?_
      · show Steps p.tables e below (T34.setTop (mkF m 113 #[.val (.long q0), .second, .val (.long q1), .second, .val (.long q2), .second, .val (.int p3), .val (.int (0 : Int32)), .val (.int (((p3.toUInt32 >>> ((1 : Int32) &&& 31).toUInt32).toInt32) &&& (3 : Int32))), .val (.long ((q2 &&& (3 : Int64)) - (1 : Int64))), .second, .val (.long (q0 + ((q2 &&& (3 : Int64)) - (1 : Int64)))), .second, .val (.ref c31), .val (.ref b32), .val (.int (alM q0 q1 (q0 + ((q2 &&& (3 : Int64)) - (1 : Int64))))), .unset, .unset, .unset] [])) _
        refine XS.lloadN X34.here hx rfl (hb hby at_113) rfl ?_
        show Steps p.tables e below (T34.setTop (mkF m 114 #[.val (.long q0), .second, .val (.long q1), .second, .val (.long q2), .second, .val (.int p3), .val (.int (0 : Int32)), .val (.int (((p3.toUInt32 >>> ((1 : Int32) &&& 31).toUInt32).toInt32) &&& (3 : Int32))), .val (.long ((q2 &&& (3 : Int64)) - (1 : Int64))), .second, .val (.long (q0 + ((q2 &&& (3 : Int64)) - (1 : Int64)))), .second, .val (.ref c31), .val (.ref b32), .val (.int (alM q0 q1 (q0 + ((q2 &&& (3 : Int64)) - (1 : Int64))))), .unset, .unset, .unset] [(.long q1)])) _
        refine XS.lstore X34.here hx rfl (hb hby at_114) rfl (l' := #[.val (.long q0), .second, .val (.long q1), .second, .val (.long q2), .second, .val (.int p3), .val (.int (0 : Int32)), .val (.int (((p3.toUInt32 >>> ((1 : Int32) &&& 31).toUInt32).toInt32) &&& (3 : Int32))), .val (.long ((q2 &&& (3 : Int64)) - (1 : Int64))), .second, .val (.long (q0 + ((q2 &&& (3 : Int64)) - (1 : Int64)))), .second, .val (.ref c31), .val (.ref b32), .val (.int (alM q0 q1 (q0 + ((q2 &&& (3 : Int64)) - (1 : Int64))))), .val (.long q1), .second, .unset]) rfl ?_
        show Steps p.tables e below (T34.setTop (mkF m 116 #[.val (.long q0), .second, .val (.long q1), .second, .val (.long q2), .second, .val (.int p3), .val (.int (0 : Int32)), .val (.int (((p3.toUInt32 >>> ((1 : Int32) &&& 31).toUInt32).toInt32) &&& (3 : Int32))), .val (.long ((q2 &&& (3 : Int64)) - (1 : Int64))), .second, .val (.long (q0 + ((q2 &&& (3 : Int64)) - (1 : Int64)))), .second, .val (.ref c31), .val (.ref b32), .val (.int (alM q0 q1 (q0 + ((q2 &&& (3 : Int64)) - (1 : Int64))))), .val (.long q1), .second, .unset] [])) _
        refine XS.lloadN X34.here hx rfl (hb hby at_116) rfl ?_
        show Steps p.tables e below (T34.setTop (mkF m 117 #[.val (.long q0), .second, .val (.long q1), .second, .val (.long q2), .second, .val (.int p3), .val (.int (0 : Int32)), .val (.int (((p3.toUInt32 >>> ((1 : Int32) &&& 31).toUInt32).toInt32) &&& (3 : Int32))), .val (.long ((q2 &&& (3 : Int64)) - (1 : Int64))), .second, .val (.long (q0 + ((q2 &&& (3 : Int64)) - (1 : Int64)))), .second, .val (.ref c31), .val (.ref b32), .val (.int (alM q0 q1 (q0 + ((q2 &&& (3 : Int64)) - (1 : Int64))))), .val (.long q1), .second, .unset] [(.long q0)])) _
        refine XS.lload X34.here hx rfl (hb hby at_117) rfl ?_
        show Steps p.tables e below (T34.setTop (mkF m 119 #[.val (.long q0), .second, .val (.long q1), .second, .val (.long q2), .second, .val (.int p3), .val (.int (0 : Int32)), .val (.int (((p3.toUInt32 >>> ((1 : Int32) &&& 31).toUInt32).toInt32) &&& (3 : Int32))), .val (.long ((q2 &&& (3 : Int64)) - (1 : Int64))), .second, .val (.long (q0 + ((q2 &&& (3 : Int64)) - (1 : Int64)))), .second, .val (.ref c31), .val (.ref b32), .val (.int (alM q0 q1 (q0 + ((q2 &&& (3 : Int64)) - (1 : Int64))))), .val (.long q1), .second, .unset] [(.long q1), (.long q0)])) _
        refine XS.lcmp X34.here hx rfl (hb hby at_119) rfl ?_
        exact k
      by_cases hc35 : (0 : Int32) < (lcmpW q0 q1)
      · -- hc35: yes
        refine own_go (A' := (T34.setTop (mkF m 144 #[.val (.long q0), .second, .val (.long q1), .second, .val (.long q2), .second, .val (.int p3), .val (.int (0 : Int32)), .val (.int (((p3.toUInt32 >>> ((1 : Int32) &&& 31).toUInt32).toInt32) &&& (3 : Int32))), .val (.long ((q2 &&& (3 : Int64)) - (1 : Int64))), .second, .val (.long (q0 + ((q2 &&& (3 : Int64)) - (1 : Int64)))), .second, .val (.ref c31), .val (.ref b32), .val (.int (alM q0 q1 (q0 + ((q2 &&& (3 : Int64)) - (1 : Int64))))), .val (.long q1), .second, .unset] []))) (fun t k => XS.ifYes X34.here hx rfl (pc0 := 120) (pc' := 144) rfl (hb hby at_120) rfl ((if0 _ _).trans (tlt hc35).2.2.1) (by decide) (by decide) k) ?_
        refine own_go (A' := (T34.setTop (mkF m 151 #[.val (.long q0), .second, .val (.long q1), .second, .val (.long q2), .second, .val (.int p3), .val (.int (0 : Int32)), .val (.int (((p3.toUInt32 >>> ((1 : Int32) &&& 31).toUInt32).toInt32) &&& (3 : Int32))), .val (.long ((q2 &&& (3 : Int64)) - (1 : Int64))), .second, .val (.long (q0 + ((q2 &&& (3 : Int64)) - (1 : Int64)))), .second, .val (.ref c31), .val (.ref b32), .val (.int (alM q0 q1 (q0 + ((q2 &&& (3 : Int64)) - (1 : Int64))))), .val (.long q1), .second, .val (.int (0 : Int32))] [(.int (0 : Int32)), (.int (alM q0 q1 (q0 + ((q2 &&& (3 : Int64)) - (1 : Int64)))))]))) (fun t k => ?_) ?_
        · show Steps p.tables e below (T34.setTop (mkF m 144 #[.val (.long q0), .second, .val (.long q1), .second, .val (.long q2), .second, .val (.int p3), .val (.int (0 : Int32)), .val (.int (((p3.toUInt32 >>> ((1 : Int32) &&& 31).toUInt32).toInt32) &&& (3 : Int32))), .val (.long ((q2 &&& (3 : Int64)) - (1 : Int64))), .second, .val (.long (q0 + ((q2 &&& (3 : Int64)) - (1 : Int64)))), .second, .val (.ref c31), .val (.ref b32), .val (.int (alM q0 q1 (q0 + ((q2 &&& (3 : Int64)) - (1 : Int64))))), .val (.long q1), .second, .unset] [])) _
          refine XS.iconst X34.here hx rfl (hb hby at_144) ?_
          show Steps p.tables e below (T34.setTop (mkF m 145 #[.val (.long q0), .second, .val (.long q1), .second, .val (.long q2), .second, .val (.int p3), .val (.int (0 : Int32)), .val (.int (((p3.toUInt32 >>> ((1 : Int32) &&& 31).toUInt32).toInt32) &&& (3 : Int32))), .val (.long ((q2 &&& (3 : Int64)) - (1 : Int64))), .second, .val (.long (q0 + ((q2 &&& (3 : Int64)) - (1 : Int64)))), .second, .val (.ref c31), .val (.ref b32), .val (.int (alM q0 q1 (q0 + ((q2 &&& (3 : Int64)) - (1 : Int64))))), .val (.long q1), .second, .unset] [(.int (0 : Int32))])) _
          refine XS.istore X34.here hx rfl (hb hby at_145) rfl (l' := #[.val (.long q0), .second, .val (.long q1), .second, .val (.long q2), .second, .val (.int p3), .val (.int (0 : Int32)), .val (.int (((p3.toUInt32 >>> ((1 : Int32) &&& 31).toUInt32).toInt32) &&& (3 : Int32))), .val (.long ((q2 &&& (3 : Int64)) - (1 : Int64))), .second, .val (.long (q0 + ((q2 &&& (3 : Int64)) - (1 : Int64)))), .second, .val (.ref c31), .val (.ref b32), .val (.int (alM q0 q1 (q0 + ((q2 &&& (3 : Int64)) - (1 : Int64))))), .val (.long q1), .second, .val (.int (0 : Int32))]) rfl ?_
          show Steps p.tables e below (T34.setTop (mkF m 147 #[.val (.long q0), .second, .val (.long q1), .second, .val (.long q2), .second, .val (.int p3), .val (.int (0 : Int32)), .val (.int (((p3.toUInt32 >>> ((1 : Int32) &&& 31).toUInt32).toInt32) &&& (3 : Int32))), .val (.long ((q2 &&& (3 : Int64)) - (1 : Int64))), .second, .val (.long (q0 + ((q2 &&& (3 : Int64)) - (1 : Int64)))), .second, .val (.ref c31), .val (.ref b32), .val (.int (alM q0 q1 (q0 + ((q2 &&& (3 : Int64)) - (1 : Int64))))), .val (.long q1), .second, .val (.int (0 : Int32))] [])) _
          refine XS.iload X34.here hx rfl (hb hby at_147) rfl ?_
          show Steps p.tables e below (T34.setTop (mkF m 149 #[.val (.long q0), .second, .val (.long q1), .second, .val (.long q2), .second, .val (.int p3), .val (.int (0 : Int32)), .val (.int (((p3.toUInt32 >>> ((1 : Int32) &&& 31).toUInt32).toInt32) &&& (3 : Int32))), .val (.long ((q2 &&& (3 : Int64)) - (1 : Int64))), .second, .val (.long (q0 + ((q2 &&& (3 : Int64)) - (1 : Int64)))), .second, .val (.ref c31), .val (.ref b32), .val (.int (alM q0 q1 (q0 + ((q2 &&& (3 : Int64)) - (1 : Int64))))), .val (.long q1), .second, .val (.int (0 : Int32))] [(.int (alM q0 q1 (q0 + ((q2 &&& (3 : Int64)) - (1 : Int64)))))])) _
          refine XS.iload X34.here hx rfl (hb hby at_149) rfl ?_
          exact k
        refine own_go (A' := (T34.setTop (mkF m 154 #[.val (.long q0), .second, .val (.long q1), .second, .val (.long q2), .second, .val (.int p3), .val (.int (0 : Int32)), .val (.int (((p3.toUInt32 >>> ((1 : Int32) &&& 31).toUInt32).toInt32) &&& (3 : Int32))), .val (.long ((q2 &&& (3 : Int64)) - (1 : Int64))), .second, .val (.long (q0 + ((q2 &&& (3 : Int64)) - (1 : Int64)))), .second, .val (.ref c31), .val (.ref b32), .val (.int (alM q0 q1 (q0 + ((q2 &&& (3 : Int64)) - (1 : Int64))))), .val (.long q1), .second, .val (.int (0 : Int32))] []))) (fun t k => XS.icmpNo X34.here hx rfl (hb hby at_151) rfl (teq (own_A _ hc35)).2 k) ?_
        refine own_go (A' := (T34.setTop (mkF m 159 #[.val (.long q0), .second, .val (.long q1), .second, .val (.long q2), .second, .val (.int p3), .val (.int (0 : Int32)), .val (.int (((p3.toUInt32 >>> ((1 : Int32) &&& 31).toUInt32).toInt32) &&& (3 : Int32))), .val (.long ((q2 &&& (3 : Int64)) - (1 : Int64))), .second, .val (.long (q0 + ((q2 &&& (3 : Int64)) - (1 : Int64)))), .second, .val (.ref c31), .val (.ref b32), .val (.int (alM q0 q1 (q0 + ((q2 &&& (3 : Int64)) - (1 : Int64))))), .val (.long q1), .second, .val (.int (0 : Int32))] [(.int (1 : Int32))]))) (fun t k => ?_) ?_
        · show Steps p.tables e below (T34.setTop (mkF m 154 #[.val (.long q0), .second, .val (.long q1), .second, .val (.long q2), .second, .val (.int p3), .val (.int (0 : Int32)), .val (.int (((p3.toUInt32 >>> ((1 : Int32) &&& 31).toUInt32).toInt32) &&& (3 : Int32))), .val (.long ((q2 &&& (3 : Int64)) - (1 : Int64))), .second, .val (.long (q0 + ((q2 &&& (3 : Int64)) - (1 : Int64)))), .second, .val (.ref c31), .val (.ref b32), .val (.int (alM q0 q1 (q0 + ((q2 &&& (3 : Int64)) - (1 : Int64))))), .val (.long q1), .second, .val (.int (0 : Int32))] [])) _
          refine XS.iconst X34.here hx rfl (hb hby at_154) ?_
          show Steps p.tables e below (T34.setTop (mkF m 155 #[.val (.long q0), .second, .val (.long q1), .second, .val (.long q2), .second, .val (.int p3), .val (.int (0 : Int32)), .val (.int (((p3.toUInt32 >>> ((1 : Int32) &&& 31).toUInt32).toInt32) &&& (3 : Int32))), .val (.long ((q2 &&& (3 : Int64)) - (1 : Int64))), .second, .val (.long (q0 + ((q2 &&& (3 : Int64)) - (1 : Int64)))), .second, .val (.ref c31), .val (.ref b32), .val (.int (alM q0 q1 (q0 + ((q2 &&& (3 : Int64)) - (1 : Int64))))), .val (.long q1), .second, .val (.int (0 : Int32))] [(.int (1 : Int32))])) _
          refine XS.goto X34.here hx rfl (pc0 := 155) (pc' := 159) rfl (hb hby at_155) (by decide) (by decide) ?_
          exact k
        obtain ⟨fs, hr, hrun, hended, hW, hsame⟩ := X34.leave (v := some (.int (1 : Int32))) (fun h => by rw [Bd.returns] at h; cases h) hlk
        refine ⟨_, _, ?_, hrun, hended, _, _, rfl, ?_, ⟨_, rfl⟩, hW, hsame.mono (by decide) (by decide)⟩
        · show Steps p.tables e below (T34.setTop (mkF m 159 #[.val (.long q0), .second, .val (.long q1), .second, .val (.long q2), .second, .val (.int p3), .val (.int (0 : Int32)), .val (.int (((p3.toUInt32 >>> ((1 : Int32) &&& 31).toUInt32).toInt32) &&& (3 : Int32))), .val (.long ((q2 &&& (3 : Int64)) - (1 : Int64))), .second, .val (.long (q0 + ((q2 &&& (3 : Int64)) - (1 : Int64)))), .second, .val (.ref c31), .val (.ref b32), .val (.int (alM q0 q1 (q0 + ((q2 &&& (3 : Int64)) - (1 : Int64))))), .val (.long q1), .second, .val (.int (0 : Int32))] [(.int (1 : Int32))])) _
          exact retN X34 hx (t := .boolean) Bd.returns (by simp) (hb hby at_159) hr
        · show Q0 Z q0 q1 q2 p3 wC clC h0 n0 _ T34.heap _
          exact ⟨rfl, N34⟩
      · -- hc35: no
        refine own_go (A' := (T34.setTop (mkF m 123 #[.val (.long q0), .second, .val (.long q1), .second, .val (.long q2), .second, .val (.int p3), .val (.int (0 : Int32)), .val (.int (((p3.toUInt32 >>> ((1 : Int32) &&& 31).toUInt32).toInt32) &&& (3 : Int32))), .val (.long ((q2 &&& (3 : Int64)) - (1 : Int64))), .second, .val (.long (q0 + ((q2 &&& (3 : Int64)) - (1 : Int64)))), .second, .val (.ref c31), .val (.ref b32), .val (.int (alM q0 q1 (q0 + ((q2 &&& (3 : Int64)) - (1 : Int64))))), .val (.long q1), .second, .unset] []))) (fun t k => XS.ifNo X34.here hx rfl (hb hby at_120) rfl ((if0 _ _).trans (flt hc35).2.2.1) k) ?_
        obtain ⟨_, _, ⟨T36, L36, k36, n36⟩, -, X36, ⟨Lc36, hQ36, l36, y36, z36⟩, st36⟩ := Jvm.LawKit.callS X34 hx (y := (⟨"java/lang/Math", "max", "(JJ)J"⟩ : MethodName)) hown (mvT hZ (hw _ (List.mem_of_getElem? (i := 47) rfl))) (mvT hZ (hw _ (List.mem_of_getElem? (i := 48) rfl))) (mvT hZ (hw _ (List.mem_of_getElem? (i := 49) rfl))) (mvT hZ (hw _ (List.mem_of_getElem? (i := 50) rfl))) (by decide) (backOf (W := 0) (rm8 l Z a0 hw [] (q0 + ((q2 &&& (3 : Int64)) - (1 : Int64))) q0  T33.heap n0 (Nat.le_trans Z0 K33.1) ) hZ (hw _ (List.mem_of_getElem? (i := 50) rfl)) (hw _ (List.mem_of_getElem? (i := 49) rfl)) (by decide) (by decide)) (g := (mkF m 126 #[.val (.long q0), .second, .val (.long q1), .second, .val (.long q2), .second, .val (.int p3), .val (.int (0 : Int32)), .val (.int (((p3.toUInt32 >>> ((1 : Int32) &&& 31).toUInt32).toInt32) &&& (3 : Int32))), .val (.long ((q2 &&& (3 : Int64)) - (1 : Int64))), .second, .val (.long (q0 + ((q2 &&& (3 : Int64)) - (1 : Int64)))), .second, .val (.ref c31), .val (.ref b32), .val (.int (alM q0 q1 (q0 + ((q2 &&& (3 : Int64)) - (1 : Int64))))), .val (.long q1), .second, .unset] [(.long q0), (.long (q0 + ((q2 &&& (3 : Int64)) - (1 : Int64))))])) rfl (by rw [hml]; rfl) (argsL := [(.long (q0 + ((q2 &&& (3 : Int64)) - (1 : Int64)))), (.long q0)]) (rest := []) (lenOf pd_6 rfl) rfl (by show 2 * 0 + _ ≤ _; exact Nat.le_of_eq rfl) (hb hby at_126) (fun _ _ => ⟨rfl, e34, (by decide : 2 + 0 ≤ _), (by decide : 3 + 0 ≤ _)⟩)
        dsimp only [Pt.U, Pt.locs, Pt.cells, Pt.slots] at X36 l36 y36 z36 st36 hQ36
        subst l36 y36 z36
        obtain ⟨rfl, N36q, e36⟩ := hQ36
        have N36 := Fr.app N34 N36q
        obtain ⟨_, _, ⟨T37, L37, k37, n37⟩, -, X37, ⟨Lc37, hQ37, l37, y37, z37⟩, st37⟩ := Jvm.LawKit.callS X36 hx (y := (⟨"java/lang/Math", "min", "(JJ)J"⟩ : MethodName)) hown (mvT hZ (hw _ (List.mem_of_getElem? (i := 51) rfl))) (mvT hZ (hw _ (List.mem_of_getElem? (i := 52) rfl))) (mvT hZ (hw _ (List.mem_of_getElem? (i := 49) rfl))) (mvT hZ (hw _ (List.mem_of_getElem? (i := 53) rfl))) (by decide) (backOf (W := 0) (rm9 l Z a0 hw [] (mxL (q0 + ((q2 &&& (3 : Int64)) - (1 : Int64))) q0) q1  T33.heap n0 (Nat.le_trans Z0 K33.1) ) hZ (hw _ (List.mem_of_getElem? (i := 53) rfl)) (hw _ (List.mem_of_getElem? (i := 49) rfl)) (by decide) (by decide)) (g := (mkF m 131 #[.val (.long q0), .second, .val (.long q1), .second, .val (.long q2), .second, .val (.int p3), .val (.int (0 : Int32)), .val (.int (((p3.toUInt32 >>> ((1 : Int32) &&& 31).toUInt32).toInt32) &&& (3 : Int32))), .val (.long ((q2 &&& (3 : Int64)) - (1 : Int64))), .second, .val (.long (q0 + ((q2 &&& (3 : Int64)) - (1 : Int64)))), .second, .val (.ref c31), .val (.ref b32), .val (.int (alM q0 q1 (q0 + ((q2 &&& (3 : Int64)) - (1 : Int64))))), .val (.long q1), .second, .unset] [(.long q1), (.long (mxL (q0 + ((q2 &&& (3 : Int64)) - (1 : Int64))) q0))])) rfl (by rw [hml]; rfl) (argsL := [(.long (mxL (q0 + ((q2 &&& (3 : Int64)) - (1 : Int64))) q0)), (.long q1)]) (rest := []) (lenOf pd_6 rfl) rfl (by show 2 * 0 + _ ≤ _; exact Nat.le_of_eq rfl) (hb hby at_131) (fun _ _ => ⟨rfl, e36, (by decide : 2 + 0 ≤ _), (by decide : 3 + 0 ≤ _)⟩)
        dsimp only [Pt.U, Pt.locs, Pt.cells, Pt.slots] at X37 l37 y37 z37 st37 hQ37
        subst l37 y37 z37
        obtain ⟨rfl, N37q, e37⟩ := hQ37
        have N37 := Fr.app N36 N37q
        refine own_go (A' := (T37.setTop (mkF m 137 #[.val (.long q0), .second, .val (.long q1), .second, .val (.long q2), .second, .val (.int p3), .val (.int (0 : Int32)), .val (.int (((p3.toUInt32 >>> ((1 : Int32) &&& 31).toUInt32).toInt32) &&& (3 : Int32))), .val (.long ((q2 &&& (3 : Int64)) - (1 : Int64))), .second, .val (.long (q0 + ((q2 &&& (3 : Int64)) - (1 : Int64)))), .second, .val (.ref c31), .val (.ref b32), .val (.int (alM q0 q1 (q0 + ((q2 &&& (3 : Int64)) - (1 : Int64))))), .val (.long q1), .second, .unset] [(.int (lcmpW (mnL (mxL (q0 + ((q2 &&& (3 : Int64)) - (1 : Int64))) q0) q1) (q0 + ((q2 &&& (3 : Int64)) - (1 : Int64)))))]))) (fun t k => ?_) ?_
        · show Steps p.tables e below (T34.setTop (mkF m 123 #[.val (.long q0), .second, .val (.long q1), .second, .val (.long q2), .second, .val (.int p3), .val (.int (0 : Int32)), .val (.int (((p3.toUInt32 >>> ((1 : Int32) &&& 31).toUInt32).toInt32) &&& (3 : Int32))), .val (.long ((q2 &&& (3 : Int64)) - (1 : Int64))), .second, .val (.long (q0 + ((q2 &&& (3 : Int64)) - (1 : Int64)))), .second, .val (.ref c31), .val (.ref b32), .val (.int (alM q0 q1 (q0 + ((q2 &&& (3 : Int64)) - (1 : Int64))))), .val (.long q1), .second, .unset] [])) _
          refine XS.lload X34.here hx rfl (hb hby at_123) rfl ?_
          show Steps p.tables e below (T34.setTop (mkF m 125 #[.val (.long q0), .second, .val (.long q1), .second, .val (.long q2), .second, .val (.int p3), .val (.int (0 : Int32)), .val (.int (((p3.toUInt32 >>> ((1 : Int32) &&& 31).toUInt32).toInt32) &&& (3 : Int32))), .val (.long ((q2 &&& (3 : Int64)) - (1 : Int64))), .second, .val (.long (q0 + ((q2 &&& (3 : Int64)) - (1 : Int64)))), .second, .val (.ref c31), .val (.ref b32), .val (.int (alM q0 q1 (q0 + ((q2 &&& (3 : Int64)) - (1 : Int64))))), .val (.long q1), .second, .unset] [(.long (q0 + ((q2 &&& (3 : Int64)) - (1 : Int64))))])) _
          refine XS.lloadN X34.here hx rfl (hb hby at_125) rfl ?_
          show Steps p.tables e below (T34.setTop (mkF m 126 #[.val (.long q0), .second, .val (.long q1), .second, .val (.long q2), .second, .val (.int p3), .val (.int (0 : Int32)), .val (.int (((p3.toUInt32 >>> ((1 : Int32) &&& 31).toUInt32).toInt32) &&& (3 : Int32))), .val (.long ((q2 &&& (3 : Int64)) - (1 : Int64))), .second, .val (.long (q0 + ((q2 &&& (3 : Int64)) - (1 : Int64)))), .second, .val (.ref c31), .val (.ref b32), .val (.int (alM q0 q1 (q0 + ((q2 &&& (3 : Int64)) - (1 : Int64))))), .val (.long q1), .second, .unset] [(.long q0), (.long (q0 + ((q2 &&& (3 : Int64)) - (1 : Int64))))])) _
          refine st36 _ ?_
          show Steps p.tables e below (T36.setTop (mkF m 129 #[.val (.long q0), .second, .val (.long q1), .second, .val (.long q2), .second, .val (.int p3), .val (.int (0 : Int32)), .val (.int (((p3.toUInt32 >>> ((1 : Int32) &&& 31).toUInt32).toInt32) &&& (3 : Int32))), .val (.long ((q2 &&& (3 : Int64)) - (1 : Int64))), .second, .val (.long (q0 + ((q2 &&& (3 : Int64)) - (1 : Int64)))), .second, .val (.ref c31), .val (.ref b32), .val (.int (alM q0 q1 (q0 + ((q2 &&& (3 : Int64)) - (1 : Int64))))), .val (.long q1), .second, .unset] [(.long (mxL (q0 + ((q2 &&& (3 : Int64)) - (1 : Int64))) q0))])) _
          refine XS.lload X36.here hx rfl (hb hby at_129) rfl ?_
          show Steps p.tables e below (T36.setTop (mkF m 131 #[.val (.long q0), .second, .val (.long q1), .second, .val (.long q2), .second, .val (.int p3), .val (.int (0 : Int32)), .val (.int (((p3.toUInt32 >>> ((1 : Int32) &&& 31).toUInt32).toInt32) &&& (3 : Int32))), .val (.long ((q2 &&& (3 : Int64)) - (1 : Int64))), .second, .val (.long (q0 + ((q2 &&& (3 : Int64)) - (1 : Int64)))), .second, .val (.ref c31), .val (.ref b32), .val (.int (alM q0 q1 (q0 + ((q2 &&& (3 : Int64)) - (1 : Int64))))), .val (.long q1), .second, .unset] [(.long q1), (.long (mxL (q0 + ((q2 &&& (3 : Int64)) - (1 : Int64))) q0))])) _
          refine st37 _ ?_
          show Steps p.tables e below (T37.setTop (mkF m 134 #[.val (.long q0), .second, .val (.long q1), .second, .val (.long q2), .second, .val (.int p3), .val (.int (0 : Int32)), .val (.int (((p3.toUInt32 >>> ((1 : Int32) &&& 31).toUInt32).toInt32) &&& (3 : Int32))), .val (.long ((q2 &&& (3 : Int64)) - (1 : Int64))), .second, .val (.long (q0 + ((q2 &&& (3 : Int64)) - (1 : Int64)))), .second, .val (.ref c31), .val (.ref b32), .val (.int (alM q0 q1 (q0 + ((q2 &&& (3 : Int64)) - (1 : Int64))))), .val (.long q1), .second, .unset] [(.long (mnL (mxL (q0 + ((q2 &&& (3 : Int64)) - (1 : Int64))) q0) q1))])) _
          refine XS.lload X37.here hx rfl (hb hby at_134) rfl ?_
          show Steps p.tables e below (T37.setTop (mkF m 136 #[.val (.long q0), .second, .val (.long q1), .second, .val (.long q2), .second, .val (.int p3), .val (.int (0 : Int32)), .val (.int (((p3.toUInt32 >>> ((1 : Int32) &&& 31).toUInt32).toInt32) &&& (3 : Int32))), .val (.long ((q2 &&& (3 : Int64)) - (1 : Int64))), .second, .val (.long (q0 + ((q2 &&& (3 : Int64)) - (1 : Int64)))), .second, .val (.ref c31), .val (.ref b32), .val (.int (alM q0 q1 (q0 + ((q2 &&& (3 : Int64)) - (1 : Int64))))), .val (.long q1), .second, .unset] [(.long (q0 + ((q2 &&& (3 : Int64)) - (1 : Int64)))), (.long (mnL (mxL (q0 + ((q2 &&& (3 : Int64)) - (1 : Int64))) q0) q1))])) _
          refine XS.lcmp X37.here hx rfl (hb hby at_136) rfl ?_
          exact k
        by_cases hc38 : (lcmpW (mnL (mxL (q0 + ((q2 &&& (3 : Int64)) - (1 : Int64))) q0) q1) (q0 + ((q2 &&& (3 : Int64)) - (1 : Int64)))) = (0 : Int32)
        · -- hc38: yes
          refine own_go (A' := (T37.setTop (mkF m 140 #[.val (.long q0), .second, .val (.long q1), .second, .val (.long q2), .second, .val (.int p3), .val (.int (0 : Int32)), .val (.int (((p3.toUInt32 >>> ((1 : Int32) &&& 31).toUInt32).toInt32) &&& (3 : Int32))), .val (.long ((q2 &&& (3 : Int64)) - (1 : Int64))), .second, .val (.long (q0 + ((q2 &&& (3 : Int64)) - (1 : Int64)))), .second, .val (.ref c31), .val (.ref b32), .val (.int (alM q0 q1 (q0 + ((q2 &&& (3 : Int64)) - (1 : Int64))))), .val (.long q1), .second, .unset] []))) (fun t k => XS.ifNo X37.here hx rfl (hb hby at_137) rfl ((if0 _ _).trans (teq hc38).2) k) ?_
          refine own_go (A' := (T37.setTop (mkF m 151 #[.val (.long q0), .second, .val (.long q1), .second, .val (.long q2), .second, .val (.int p3), .val (.int (0 : Int32)), .val (.int (((p3.toUInt32 >>> ((1 : Int32) &&& 31).toUInt32).toInt32) &&& (3 : Int32))), .val (.long ((q2 &&& (3 : Int64)) - (1 : Int64))), .second, .val (.long (q0 + ((q2 &&& (3 : Int64)) - (1 : Int64)))), .second, .val (.ref c31), .val (.ref b32), .val (.int (alM q0 q1 (q0 + ((q2 &&& (3 : Int64)) - (1 : Int64))))), .val (.long q1), .second, .val (.int (1 : Int32))] [(.int (1 : Int32)), (.int (alM q0 q1 (q0 + ((q2 &&& (3 : Int64)) - (1 : Int64)))))]))) (fun t k => ?_) ?_
          · show Steps p.tables e below (T37.setTop (mkF m 140 #[.val (.long q0), .second, .val (.long q1), .second, .val (.long q2), .second, .val (.int p3), .val (.int (0 : Int32)), .val (.int (((p3.toUInt32 >>> ((1 : Int32) &&& 31).toUInt32).toInt32) &&& (3 : Int32))), .val (.long ((q2 &&& (3 : Int64)) - (1 : Int64))), .second, .val (.long (q0 + ((q2 &&& (3 : Int64)) - (1 : Int64)))), .second, .val (.ref c31), .val (.ref b32), .val (.int (alM q0 q1 (q0 + ((q2 &&& (3 : Int64)) - (1 : Int64))))), .val (.long q1), .second, .unset] [])) _
            refine XS.iconst X37.here hx rfl (hb hby at_140) ?_
            show Steps p.tables e below (T37.setTop (mkF m 141 #[.val (.long q0), .second, .val (.long q1), .second, .val (.long q2), .second, .val (.int p3), .val (.int (0 : Int32)), .val (.int (((p3.toUInt32 >>> ((1 : Int32) &&& 31).toUInt32).toInt32) &&& (3 : Int32))), .val (.long ((q2 &&& (3 : Int64)) - (1 : Int64))), .second, .val (.long (q0 + ((q2 &&& (3 : Int64)) - (1 : Int64)))), .second, .val (.ref c31), .val (.ref b32), .val (.int (alM q0 q1 (q0 + ((q2 &&& (3 : Int64)) - (1 : Int64))))), .val (.long q1), .second, .unset] [(.int (1 : Int32))])) _
            refine XS.goto X37.here hx rfl (pc0 := 141) (pc' := 145) rfl (hb hby at_141) (by decide) (by decide) ?_
            show Steps p.tables e below (T37.setTop (mkF m 145 #[.val (.long q0), .second, .val (.long q1), .second, .val (.long q2), .second, .val (.int p3), .val (.int (0 : Int32)), .val (.int (((p3.toUInt32 >>> ((1 : Int32) &&& 31).toUInt32).toInt32) &&& (3 : Int32))), .val (.long ((q2 &&& (3 : Int64)) - (1 : Int64))), .second, .val (.long (q0 + ((q2 &&& (3 : Int64)) - (1 : Int64)))), .second, .val (.ref c31), .val (.ref b32), .val (.int (alM q0 q1 (q0 + ((q2 &&& (3 : Int64)) - (1 : Int64))))), .val (.long q1), .second, .unset] [(.int (1 : Int32))])) _
            refine XS.istore X37.here hx rfl (hb hby at_145) rfl (l' := #[.val (.long q0), .second, .val (.long q1), .second, .val (.long q2), .second, .val (.int p3), .val (.int (0 : Int32)), .val (.int (((p3.toUInt32 >>> ((1 : Int32) &&& 31).toUInt32).toInt32) &&& (3 : Int32))), .val (.long ((q2 &&& (3 : Int64)) - (1 : Int64))), .second, .val (.long (q0 + ((q2 &&& (3 : Int64)) - (1 : Int64)))), .second, .val (.ref c31), .val (.ref b32), .val (.int (alM q0 q1 (q0 + ((q2 &&& (3 : Int64)) - (1 : Int64))))), .val (.long q1), .second, .val (.int (1 : Int32))]) rfl ?_
            show Steps p.tables e below (T37.setTop (mkF m 147 #[.val (.long q0), .second, .val (.long q1), .second, .val (.long q2), .second, .val (.int p3), .val (.int (0 : Int32)), .val (.int (((p3.toUInt32 >>> ((1 : Int32) &&& 31).toUInt32).toInt32) &&& (3 : Int32))), .val (.long ((q2 &&& (3 : Int64)) - (1 : Int64))), .second, .val (.long (q0 + ((q2 &&& (3 : Int64)) - (1 : Int64)))), .second, .val (.ref c31), .val (.ref b32), .val (.int (alM q0 q1 (q0 + ((q2 &&& (3 : Int64)) - (1 : Int64))))), .val (.long q1), .second, .val (.int (1 : Int32))] [])) _
            refine XS.iload X37.here hx rfl (hb hby at_147) rfl ?_
            show Steps p.tables e below (T37.setTop (mkF m 149 #[.val (.long q0), .second, .val (.long q1), .second, .val (.long q2), .second, .val (.int p3), .val (.int (0 : Int32)), .val (.int (((p3.toUInt32 >>> ((1 : Int32) &&& 31).toUInt32).toInt32) &&& (3 : Int32))), .val (.long ((q2 &&& (3 : Int64)) - (1 : Int64))), .second, .val (.long (q0 + ((q2 &&& (3 : Int64)) - (1 : Int64)))), .second, .val (.ref c31), .val (.ref b32), .val (.int (alM q0 q1 (q0 + ((q2 &&& (3 : Int64)) - (1 : Int64))))), .val (.long q1), .second, .val (.int (1 : Int32))] [(.int (alM q0 q1 (q0 + ((q2 &&& (3 : Int64)) - (1 : Int64)))))])) _
            refine XS.iload X37.here hx rfl (hb hby at_149) rfl ?_
            exact k
          refine own_go (A' := (T37.setTop (mkF m 154 #[.val (.long q0), .second, .val (.long q1), .second, .val (.long q2), .second, .val (.int p3), .val (.int (0 : Int32)), .val (.int (((p3.toUInt32 >>> ((1 : Int32) &&& 31).toUInt32).toInt32) &&& (3 : Int32))), .val (.long ((q2 &&& (3 : Int64)) - (1 : Int64))), .second, .val (.long (q0 + ((q2 &&& (3 : Int64)) - (1 : Int64)))), .second, .val (.ref c31), .val (.ref b32), .val (.int (alM q0 q1 (q0 + ((q2 &&& (3 : Int64)) - (1 : Int64))))), .val (.long q1), .second, .val (.int (1 : Int32))] []))) (fun t k => XS.icmpNo X37.here hx rfl (hb hby at_151) rfl (teq (own_B hc35 hc38)).2 k) ?_
          refine own_go (A' := (T37.setTop (mkF m 159 #[.val (.long q0), .second, .val (.long q1), .second, .val (.long q2), .second, .val (.int p3), .val (.int (0 : Int32)), .val (.int (((p3.toUInt32 >>> ((1 : Int32) &&& 31).toUInt32).toInt32) &&& (3 : Int32))), .val (.long ((q2 &&& (3 : Int64)) - (1 : Int64))), .second, .val (.long (q0 + ((q2 &&& (3 : Int64)) - (1 : Int64)))), .second, .val (.ref c31), .val (.ref b32), .val (.int (alM q0 q1 (q0 + ((q2 &&& (3 : Int64)) - (1 : Int64))))), .val (.long q1), .second, .val (.int (1 : Int32))] [(.int (1 : Int32))]))) (fun t k => ?_) ?_
          · show Steps p.tables e below (T37.setTop (mkF m 154 #[.val (.long q0), .second, .val (.long q1), .second, .val (.long q2), .second, .val (.int p3), .val (.int (0 : Int32)), .val (.int (((p3.toUInt32 >>> ((1 : Int32) &&& 31).toUInt32).toInt32) &&& (3 : Int32))), .val (.long ((q2 &&& (3 : Int64)) - (1 : Int64))), .second, .val (.long (q0 + ((q2 &&& (3 : Int64)) - (1 : Int64)))), .second, .val (.ref c31), .val (.ref b32), .val (.int (alM q0 q1 (q0 + ((q2 &&& (3 : Int64)) - (1 : Int64))))), .val (.long q1), .second, .val (.int (1 : Int32))] [])) _
            refine XS.iconst X37.here hx rfl (hb hby at_154) ?_
            show Steps p.tables e below (T37.setTop (mkF m 155 #[.val (.long q0), .second, .val (.long q1), .second, .val (.long q2), .second, .val (.int p3), .val (.int (0 : Int32)), .val (.int (((p3.toUInt32 >>> ((1 : Int32) &&& 31).toUInt32).toInt32) &&& (3 : Int32))), .val (.long ((q2 &&& (3 : Int64)) - (1 : Int64))), .second, .val (.long (q0 + ((q2 &&& (3 : Int64)) - (1 : Int64)))), .second, .val (.ref c31), .val (.ref b32), .val (.int (alM q0 q1 (q0 + ((q2 &&& (3 : Int64)) - (1 : Int64))))), .val (.long q1), .second, .val (.int (1 : Int32))] [(.int (1 : Int32))])) _
            refine XS.goto X37.here hx rfl (pc0 := 155) (pc' := 159) rfl (hb hby at_155) (by decide) (by decide) ?_
            exact k
          obtain ⟨fs, hr, hrun, hended, hW, hsame⟩ := X37.leave (v := some (.int (1 : Int32))) (fun h => by rw [Bd.returns] at h; cases h) hlk
          refine ⟨_, _, ?_, hrun, hended, _, _, rfl, ?_, ⟨_, rfl⟩, hW, hsame.mono (by decide) (by decide)⟩
          · show Steps p.tables e below (T37.setTop (mkF m 159 #[.val (.long q0), .second, .val (.long q1), .second, .val (.long q2), .second, .val (.int p3), .val (.int (0 : Int32)), .val (.int (((p3.toUInt32 >>> ((1 : Int32) &&& 31).toUInt32).toInt32) &&& (3 : Int32))), .val (.long ((q2 &&& (3 : Int64)) - (1 : Int64))), .second, .val (.long (q0 + ((q2 &&& (3 : Int64)) - (1 : Int64)))), .second, .val (.ref c31), .val (.ref b32), .val (.int (alM q0 q1 (q0 + ((q2 &&& (3 : Int64)) - (1 : Int64))))), .val (.long q1), .second, .val (.int (1 : Int32))] [(.int (1 : Int32))])) _
            exact retN X37 hx (t := .boolean) Bd.returns (by simp) (hb hby at_159) hr
          · show Q0 Z q0 q1 q2 p3 wC clC h0 n0 _ T37.heap _
            exact ⟨rfl, N37⟩
        · -- hc38: no
          refine own_go (A' := (T37.setTop (mkF m 144 #[.val (.long q0), .second, .val (.long q1), .second, .val (.long q2), .second, .val (.int p3), .val (.int (0 : Int32)), .val (.int (((p3.toUInt32 >>> ((1 : Int32) &&& 31).toUInt32).toInt32) &&& (3 : Int32))), .val (.long ((q2 &&& (3 : Int64)) - (1 : Int64))), .second, .val (.long (q0 + ((q2 &&& (3 : Int64)) - (1 : Int64)))), .second, .val (.ref c31), .val (.ref b32), .val (.int (alM q0 q1 (q0 + ((q2 &&& (3 : Int64)) - (1 : Int64))))), .val (.long q1), .second, .unset] []))) (fun t k => XS.ifYes X37.here hx rfl (pc0 := 137) (pc' := 144) rfl (hb hby at_137) rfl ((if0 _ _).trans (feq hc38).2) (by decide) (by decide) k) ?_
          refine own_go (A' := (T37.setTop (mkF m 151 #[.val (.long q0), .second, .val (.long q1), .second, .val (.long q2), .second, .val (.int p3), .val (.int (0 : Int32)), .val (.int (((p3.toUInt32 >>> ((1 : Int32) &&& 31).toUInt32).toInt32) &&& (3 : Int32))), .val (.long ((q2 &&& (3 : Int64)) - (1 : Int64))), .second, .val (.long (q0 + ((q2 &&& (3 : Int64)) - (1 : Int64)))), .second, .val (.ref c31), .val (.ref b32), .val (.int (alM q0 q1 (q0 + ((q2 &&& (3 : Int64)) - (1 : Int64))))), .val (.long q1), .second, .val (.int (0 : Int32))] [(.int (0 : Int32)), (.int (alM q0 q1 (q0 + ((q2 &&& (3 : Int64)) - (1 : Int64)))))]))) (fun t k => ?_) ?_
          · show Steps p.tables e below (T37.setTop (mkF m 144 #[.val (.long q0), .second, .val (.long q1), .second, .val (.long q2), .second, .val (.int p3), .val (.int (0 : Int32)), .val (.int (((p3.toUInt32 >>> ((1 : Int32) &&& 31).toUInt32).toInt32) &&& (3 : Int32))), .val (.long ((q2 &&& (3 : Int64)) - (1 : Int64))), .second, .val (.long (q0 + ((q2 &&& (3 : Int64)) - (1 : Int64)))), .second, .val (.ref c31), .val (.ref b32), .val (.int (alM q0 q1 (q0 + ((q2 &&& (3 : Int64)) - (1 : Int64))))), .val (.long q1), .second, .unset] [])) _
            refine XS.iconst X37.here hx rfl (hb hby at_144) ?_
            show Steps p.tables e below (T37.setTop (mkF m 145 #[.val (.long q0), .second, .val (.long q1), .second, .val (.long q2), .second, .val (.int p3), .val (.int (0 : Int32)), .val (.int (((p3.toUInt32 >>> ((1 : Int32) &&& 31).toUInt32).toInt32) &&& (3 : Int32))), .val (.long ((q2 &&& (3 : Int64)) - (1 : Int64))), .second, .val (.long (q0 + ((q2 &&& (3 : Int64)) - (1 : Int64)))), .second, .val (.ref c31), .val (.ref b32), .val (.int (alM q0 q1 (q0 + ((q2 &&& (3 : Int64)) - (1 : Int64))))), .val (.long q1), .second, .unset] [(.int (0 : Int32))])) _
            refine XS.istore X37.here hx rfl (hb hby at_145) rfl (l' := #[.val (.long q0), .second, .val (.long q1), .second, .val (.long q2), .second, .val (.int p3), .val (.int (0 : Int32)), .val (.int (((p3.toUInt32 >>> ((1 : Int32) &&& 31).toUInt32).toInt32) &&& (3 : Int32))), .val (.long ((q2 &&& (3 : Int64)) - (1 : Int64))), .second, .val (.long (q0 + ((q2 &&& (3 : Int64)) - (1 : Int64)))), .second, .val (.ref c31), .val (.ref b32), .val (.int (alM q0 q1 (q0 + ((q2 &&& (3 : Int64)) - (1 : Int64))))), .val (.long q1), .second, .val (.int (0 : Int32))]) rfl ?_
            show Steps p.tables e below (T37.setTop (mkF m 147 #[.val (.long q0), .second, .val (.long q1), .second, .val (.long q2), .second, .val (.int p3), .val (.int (0 : Int32)), .val (.int (((p3.toUInt32 >>> ((1 : Int32) &&& 31).toUInt32).toInt32) &&& (3 : Int32))), .val (.long ((q2 &&& (3 : Int64)) - (1 : Int64))), .second, .val (.long (q0 + ((q2 &&& (3 : Int64)) - (1 : Int64)))), .second, .val (.ref c31), .val (.ref b32), .val (.int (alM q0 q1 (q0 + ((q2 &&& (3 : Int64)) - (1 : Int64))))), .val (.long q1), .second, .val (.int (0 : Int32))] [])) _
            refine XS.iload X37.here hx rfl (hb hby at_147) rfl ?_
            show Steps p.tables e below (T37.setTop (mkF m 149 #[.val (.long q0), .second, .val (.long q1), .second, .val (.long q2), .second, .val (.int p3), .val (.int (0 : Int32)), .val (.int (((p3.toUInt32 >>> ((1 : Int32) &&& 31).toUInt32).toInt32) &&& (3 : Int32))), .val (.long ((q2 &&& (3 : Int64)) - (1 : Int64))), .second, .val (.long (q0 + ((q2 &&& (3 : Int64)) - (1 : Int64)))), .second, .val (.ref c31), .val (.ref b32), .val (.int (alM q0 q1 (q0 + ((q2 &&& (3 : Int64)) - (1 : Int64))))), .val (.long q1), .second, .val (.int (0 : Int32))] [(.int (alM q0 q1 (q0 + ((q2 &&& (3 : Int64)) - (1 : Int64)))))])) _
            refine XS.iload X37.here hx rfl (hb hby at_149) rfl ?_
            exact k
          refine own_go (A' := (T37.setTop (mkF m 154 #[.val (.long q0), .second, .val (.long q1), .second, .val (.long q2), .second, .val (.int p3), .val (.int (0 : Int32)), .val (.int (((p3.toUInt32 >>> ((1 : Int32) &&& 31).toUInt32).toInt32) &&& (3 : Int32))), .val (.long ((q2 &&& (3 : Int64)) - (1 : Int64))), .second, .val (.long (q0 + ((q2 &&& (3 : Int64)) - (1 : Int64)))), .second, .val (.ref c31), .val (.ref b32), .val (.int (alM q0 q1 (q0 + ((q2 &&& (3 : Int64)) - (1 : Int64))))), .val (.long q1), .second, .val (.int (0 : Int32))] []))) (fun t k => XS.icmpNo X37.here hx rfl (hb hby at_151) rfl (teq (own_C hc35 hc38)).2 k) ?_
          refine own_go (A' := (T37.setTop (mkF m 159 #[.val (.long q0), .second, .val (.long q1), .second, .val (.long q2), .second, .val (.int p3), .val (.int (0 : Int32)), .val (.int (((p3.toUInt32 >>> ((1 : Int32) &&& 31).toUInt32).toInt32) &&& (3 : Int32))), .val (.long ((q2 &&& (3 : Int64)) - (1 : Int64))), .second, .val (.long (q0 + ((q2 &&& (3 : Int64)) - (1 : Int64)))), .second, .val (.ref c31), .val (.ref b32), .val (.int (alM q0 q1 (q0 + ((q2 &&& (3 : Int64)) - (1 : Int64))))), .val (.long q1), .second, .val (.int (0 : Int32))] [(.int (1 : Int32))]))) (fun t k => ?_) ?_
          · show Steps p.tables e below (T37.setTop (mkF m 154 #[.val (.long q0), .second, .val (.long q1), .second, .val (.long q2), .second, .val (.int p3), .val (.int (0 : Int32)), .val (.int (((p3.toUInt32 >>> ((1 : Int32) &&& 31).toUInt32).toInt32) &&& (3 : Int32))), .val (.long ((q2 &&& (3 : Int64)) - (1 : Int64))), .second, .val (.long (q0 + ((q2 &&& (3 : Int64)) - (1 : Int64)))), .second, .val (.ref c31), .val (.ref b32), .val (.int (alM q0 q1 (q0 + ((q2 &&& (3 : Int64)) - (1 : Int64))))), .val (.long q1), .second, .val (.int (0 : Int32))] [])) _
            refine XS.iconst X37.here hx rfl (hb hby at_154) ?_
            show Steps p.tables e below (T37.setTop (mkF m 155 #[.val (.long q0), .second, .val (.long q1), .second, .val (.long q2), .second, .val (.int p3), .val (.int (0 : Int32)), .val (.int (((p3.toUInt32 >>> ((1 : Int32) &&& 31).toUInt32).toInt32) &&& (3 : Int32))), .val (.long ((q2 &&& (3 : Int64)) - (1 : Int64))), .second, .val (.long (q0 + ((q2 &&& (3 : Int64)) - (1 : Int64)))), .second, .val (.ref c31), .val (.ref b32), .val (.int (alM q0 q1 (q0 + ((q2 &&& (3 : Int64)) - (1 : Int64))))), .val (.long q1), .second, .val (.int (0 : Int32))] [(.int (1 : Int32))])) _
            refine XS.goto X37.here hx rfl (pc0 := 155) (pc' := 159) rfl (hb hby at_155) (by decide) (by decide) ?_
            exact k
          obtain ⟨fs, hr, hrun, hended, hW, hsame⟩ := X37.leave (v := some (.int (1 : Int32))) (fun h => by rw [Bd.returns] at h; cases h) hlk
          refine ⟨_, _, ?_, hrun, hended, _, _, rfl, ?_, ⟨_, rfl⟩, hW, hsame.mono (by decide) (by decide)⟩
          · show Steps p.tables e below (T37.setTop (mkF m 159 #[.val (.long q0), .second, .val (.long q1), .second, .val (.long q2), .second, .val (.int p3), .val (.int (0 : Int32)), .val (.int (((p3.toUInt32 >>> ((1 : Int32) &&& 31).toUInt32).toInt32) &&& (3 : Int32))), .val (.long ((q2 &&& (3 : Int64)) - (1 : Int64))), .second, .val (.long (q0 + ((q2 &&& (3 : Int64)) - (1 : Int64)))), .second, .val (.ref c31), .val (.ref b32), .val (.int (alM q0 q1 (q0 + ((q2 &&& (3 : Int64)) - (1 : Int64))))), .val (.long q1), .second, .val (.int (0 : Int32))] [(.int (1 : Int32))])) _
            exact retN X37 hx (t := .boolean) Bd.returns (by simp) (hb hby at_159) hr
          · show Q0 Z q0 q1 q2 p3 wC clC h0 n0 _ T37.heap _
            exact ⟨rfl, N37⟩
    · -- hc30: no
      refine own_go (A' := (s₁.setTop (mkF m 47 #[.val (.long q0), .second, .val (.long q1), .second, .val (.long q2), .second, .val (.int p3), .val (.int (0 : Int32)), .val (.int (((p3.toUInt32 >>> ((1 : Int32) &&& 31).toUInt32).toInt32) &&& (3 : Int32))), .val (.long ((q2 &&& (3 : Int64)) - (1 : Int64))), .second, .unset, .unset, .unset, .unset, .unset, .unset, .unset, .unset] []))) (fun t k => XS.icmpYes X0.here hx rfl (pc0 := 35) (pc' := 47) rfl (hb hby at_35) rfl (feq hc30).2 (by decide) (by decide) k) ?_
      refine own_go (A' := (s₁.setTop (mkF m 50 #[.val (.long q0), .second, .val (.long q1), .second, .val (.long q2), .second, .val (.int p3), .val (.int (0 : Int32)), .val (.int (((p3.toUInt32 >>> ((1 : Int32) &&& 31).toUInt32).toInt32) &&& (3 : Int32))), .val (.long ((q2 &&& (3 : Int64)) - (1 : Int64))), .second, .unset, .unset, .unset, .unset, .unset, .unset, .unset, .unset] [(.int (2 : Int32)), (.int (((p3.toUInt32 >>> ((1 : Int32) &&& 31).toUInt32).toInt32) &&& (3 : Int32)))]))) (fun t k => ?_) ?_
      · show Steps p.tables e below (s₁.setTop (mkF m 47 #[.val (.long q0), .second, .val (.long q1), .second, .val (.long q2), .second, .val (.int p3), .val (.int (0 : Int32)), .val (.int (((p3.toUInt32 >>> ((1 : Int32) &&& 31).toUInt32).toInt32) &&& (3 : Int32))), .val (.long ((q2 &&& (3 : Int64)) - (1 : Int64))), .second, .unset, .unset, .unset, .unset, .unset, .unset, .unset, .unset] [])) _
        refine XS.iload X0.here hx rfl (hb hby at_47) rfl ?_
        show Steps p.tables e below (s₁.setTop (mkF m 49 #[.val (.long q0), .second, .val (.long q1), .second, .val (.long q2), .second, .val (.int p3), .val (.int (0 : Int32)), .val (.int (((p3.toUInt32 >>> ((1 : Int32) &&& 31).toUInt32).toInt32) &&& (3 : Int32))), .val (.long ((q2 &&& (3 : Int64)) - (1 : Int64))), .second, .unset, .unset, .unset, .unset, .unset, .unset, .unset, .unset] [(.int (((p3.toUInt32 >>> ((1 : Int32) &&& 31).toUInt32).toInt32) &&& (3 : Int32)))])) _
        refine XS.iconst X0.here hx rfl (hb hby at_49) ?_
        exact k
      by_cases hc39 : (((p3.toUInt32 >>> ((1 : Int32) &&& 31).toUInt32).toInt32) &&& (3 : Int32)) = (2 : Int32)
      · -- hc39: yes
        refine own_go (A' := (s₁.setTop (mkF m 53 #[.val (.long q0), .second, .val (.long q1), .second, .val (.long q2), .second, .val (.int p3), .val (.int (0 : Int32)), .val (.int (((p3.toUInt32 >>> ((1 : Int32) &&& 31).toUInt32).toInt32) &&& (3 : Int32))), .val (.long ((q2 &&& (3 : Int64)) - (1 : Int64))), .second, .unset, .unset, .unset, .unset, .unset, .unset, .unset, .unset] []))) (fun t k => XS.icmpNo X0.here hx rfl (hb hby at_50) rfl (teq hc39).2 k) ?_
        refine own_go (A' := (s₁.setTop (mkF m 68 #[.val (.long q0), .second, .val (.long q1), .second, .val (.long q2), .second, .val (.int p3), .val (.int (0 : Int32)), .val (.int (((p3.toUInt32 >>> ((1 : Int32) &&& 31).toUInt32).toInt32) &&& (3 : Int32))), .val (.long ((q2 &&& (3 : Int64)) - (1 : Int64))), .second, .val (.long (q1 + ((q2 &&& (3 : Int64)) - (1 : Int64)))), .second, .unset, .unset, .unset, .unset, .unset, .unset] [(.int (0 : Int32))]))) (fun t k => ?_) ?_
        · show Steps p.tables e below (s₁.setTop (mkF m 53 #[.val (.long q0), .second, .val (.long q1), .second, .val (.long q2), .second, .val (.int p3), .val (.int (0 : Int32)), .val (.int (((p3.toUInt32 >>> ((1 : Int32) &&& 31).toUInt32).toInt32) &&& (3 : Int32))), .val (.long ((q2 &&& (3 : Int64)) - (1 : Int64))), .second, .unset, .unset, .unset, .unset, .unset, .unset, .unset, .unset] [])) _
          refine XS.lloadN X0.here hx rfl (hb hby at_53) rfl ?_
          show Steps p.tables e below (s₁.setTop (mkF m 54 #[.val (.long q0), .second, .val (.long q1), .second, .val (.long q2), .second, .val (.int p3), .val (.int (0 : Int32)), .val (.int (((p3.toUInt32 >>> ((1 : Int32) &&& 31).toUInt32).toInt32) &&& (3 : Int32))), .val (.long ((q2 &&& (3 : Int64)) - (1 : Int64))), .second, .unset, .unset, .unset, .unset, .unset, .unset, .unset, .unset] [(.long q1)])) _
          refine XS.lload X0.here hx rfl (hb hby at_54) rfl ?_
          show Steps p.tables e below (s₁.setTop (mkF m 56 #[.val (.long q0), .second, .val (.long q1), .second, .val (.long q2), .second, .val (.int p3), .val (.int (0 : Int32)), .val (.int (((p3.toUInt32 >>> ((1 : Int32) &&& 31).toUInt32).toInt32) &&& (3 : Int32))), .val (.long ((q2 &&& (3 : Int64)) - (1 : Int64))), .second, .unset, .unset, .unset, .unset, .unset, .unset, .unset, .unset] [(.long ((q2 &&& (3 : Int64)) - (1 : Int64))), (.long q1)])) _
          refine XS.ladd X0.here hx rfl (hb hby at_56) rfl ?_
          show Steps p.tables e below (s₁.setTop (mkF m 57 #[.val (.long q0), .second, .val (.long q1), .second, .val (.long q2), .second, .val (.int p3), .val (.int (0 : Int32)), .val (.int (((p3.toUInt32 >>> ((1 : Int32) &&& 31).toUInt32).toInt32) &&& (3 : Int32))), .val (.long ((q2 &&& (3 : Int64)) - (1 : Int64))), .second, .unset, .unset, .unset, .unset, .unset, .unset, .unset, .unset] [(.long (q1 + ((q2 &&& (3 : Int64)) - (1 : Int64))))])) _
          refine XS.lstore X0.here hx rfl (hb hby at_57) rfl (l' := #[.val (.long q0), .second, .val (.long q1), .second, .val (.long q2), .second, .val (.int p3), .val (.int (0 : Int32)), .val (.int (((p3.toUInt32 >>> ((1 : Int32) &&& 31).toUInt32).toInt32) &&& (3 : Int32))), .val (.long ((q2 &&& (3 : Int64)) - (1 : Int64))), .second, .val (.long (q1 + ((q2 &&& (3 : Int64)) - (1 : Int64)))), .second, .unset, .unset, .unset, .unset, .unset, .unset]) rfl ?_
          show Steps p.tables e below (s₁.setTop (mkF m 59 #[.val (.long q0), .second, .val (.long q1), .second, .val (.long q2), .second, .val (.int p3), .val (.int (0 : Int32)), .val (.int (((p3.toUInt32 >>> ((1 : Int32) &&& 31).toUInt32).toInt32) &&& (3 : Int32))), .val (.long ((q2 &&& (3 : Int64)) - (1 : Int64))), .second, .val (.long (q1 + ((q2 &&& (3 : Int64)) - (1 : Int64)))), .second, .unset, .unset, .unset, .unset, .unset, .unset] [])) _
          refine XS.goto X0.here hx rfl (pc0 := 59) (pc' := 66) rfl (hb hby at_59) (by decide) (by decide) ?_
          show Steps p.tables e below (s₁.setTop (mkF m 66 #[.val (.long q0), .second, .val (.long q1), .second, .val (.long q2), .second, .val (.int p3), .val (.int (0 : Int32)), .val (.int (((p3.toUInt32 >>> ((1 : Int32) &&& 31).toUInt32).toInt32) &&& (3 : Int32))), .val (.long ((q2 &&& (3 : Int64)) - (1 : Int64))), .second, .val (.long (q1 + ((q2 &&& (3 : Int64)) - (1 : Int64)))), .second, .unset, .unset, .unset, .unset, .unset, .unset] [])) _
          refine XS.iload X0.here hx rfl (hb hby at_66) rfl ?_
          exact k
        refine own_go (A' := (s₁.setTop (mkF m 75 #[.val (.long q0), .second, .val (.long q1), .second, .val (.long q2), .second, .val (.int p3), .val (.int (0 : Int32)), .val (.int (((p3.toUInt32 >>> ((1 : Int32) &&& 31).toUInt32).toInt32) &&& (3 : Int32))), .val (.long ((q2 &&& (3 : Int64)) - (1 : Int64))), .second, .val (.long (q1 + ((q2 &&& (3 : Int64)) - (1 : Int64)))), .second, .unset, .unset, .unset, .unset, .unset, .unset] []))) (fun t k => XS.ifYes X0.here hx rfl (pc0 := 68) (pc' := 75) rfl (hb hby at_68) rfl ((if0 _ _).trans (teq (by decide : (0 : Int32) = (0 : Int32))).1) (by decide) (by decide) k) ?_
        obtain ⟨_, _, ⟨T40, L40, k40, n40⟩, -, X40, ⟨Lc40, hQ40, l40, y40, z40⟩, st40⟩ := Jvm.LawKit.callS X0 hx (y := (⟨"java/lang/Long", "valueOf", "(J)Ljava/lang/Long;"⟩ : MethodName)) hown (mvT hZ (hw _ (List.mem_of_getElem? (i := 1) rfl))) (mvT hZ (hw _ (List.mem_of_getElem? (i := 2) rfl))) (mvT hZ (hw _ (List.mem_of_getElem? (i := 3) rfl))) (mvT hZ (hw _ (List.mem_of_getElem? (i := 4) rfl))) (by decide) (backOf (W := 0) (rm1 l Z a0 hw [] q1 wC clC h0 n0 Z0 S_cache Ar_C L_C P_C) hZ (hw _ (List.mem_of_getElem? (i := 4) rfl)) (hw _ (List.mem_of_getElem? (i := 3) rfl)) (by decide) (by decide)) (g := (mkF m 76 #[.val (.long q0), .second, .val (.long q1), .second, .val (.long q2), .second, .val (.int p3), .val (.int (0 : Int32)), .val (.int (((p3.toUInt32 >>> ((1 : Int32) &&& 31).toUInt32).toInt32) &&& (3 : Int32))), .val (.long ((q2 &&& (3 : Int64)) - (1 : Int64))), .second, .val (.long (q1 + ((q2 &&& (3 : Int64)) - (1 : Int64)))), .second, .unset, .unset, .unset, .unset, .unset, .unset] [(.long q1)])) rfl (by rw [hml]; rfl) (argsL := [(.long q1)]) (rest := []) (lenOf pd_3 rfl) rfl (by show 2 * 0 + _ ≤ _; exact Nat.le_of_eq rfl) (hb hby at_76) (fun _ _ => ⟨rfl, e0, (by decide : 0 + 1 ≤ _), (by decide : 0 + 1 ≤ _)⟩)
        dsimp only [Pt.U, Pt.locs, Pt.cells, Pt.slots] at X40 l40 y40 z40 st40 hQ40
        subst l40 y40 z40
        obtain ⟨c40, rfl, N40q, K40q, E40q, F40q⟩ := hQ40
        have N40 := Fr.app N0 N40q
        have K40 : Keep h0 T40.heap [] := (Keep.refl h0 []).trans K40q all0
        have B40 : Ext h0 T40.heap := own_keep_ext K40
        obtain ⟨T41, h41, X41, e41, E41, A41, D41, -, st41⟩ := newO X40 hx hZ hown (hw _ (List.mem_of_getElem? (i := 9) rfl)) (hw _ (List.mem_of_getElem? (i := 10) rfl)) (hw _ (List.mem_of_getElem? (i := 11) rfl)) rfl (g := (mkF m 81 #[.val (.long q0), .second, .val (.long q1), .second, .val (.long q2), .second, .val (.int p3), .val (.int (0 : Int32)), .val (.int (((p3.toUInt32 >>> ((1 : Int32) &&& 31).toUInt32).toInt32) &&& (3 : Int32))), .val (.long ((q2 &&& (3 : Int64)) - (1 : Int64))), .second, .val (.long (q1 + ((q2 &&& (3 : Int64)) - (1 : Int64)))), .second, .val (.ref c40), .unset, .unset, .unset, .unset, .unset] [])) rfl (hb hby at_81) (by decide) (by decide)
        obtain ⟨b41, g41⟩ : ∃ z, z = T40.heap.size := ⟨_, rfl⟩
        have sz_b41 : h0.size ≤ b41 := Nat.le_trans K40.1 (Nat.le_of_eq g41.symm)
        have ne_c40_b41 : c40 ≠ b41 := Nat.ne_of_lt (Nat.lt_of_lt_of_le E40q.lt (Nat.le_of_eq g41.symm))
        rw [← g41] at A41 D41 st41
        have K41 : Keep h0 h41 [] := K40.ext E41
        have B41 : Ext h0 h41 := own_keep_ext K41
        have F41_min : Fld Z h41 b41 "com/example/lading/lading/core/Occurrence" "min" "J" (.long (0 : Int64)) := D41 (Or.inr (hw _ (List.mem_of_getElem? (i := 19) rfl))) (ty := .long) (by decide)
        have F41_max : Fld Z h41 b41 "com/example/lading/lading/core/Occurrence" "max" "Ljava/lang/Long;" .null := D41 (Or.inr (hw _ (List.mem_of_getElem? (i := 21) rfl))) (ty := (.object "java/lang/Long")) (by decide)
        obtain ⟨_, _, ⟨T42, L42, k42, n42⟩, -, X42, ⟨Lc42, hQ42, l42, y42, z42⟩, st42⟩ := X41.specialBack hx (y := (⟨"com/example/lading/lading/core/Occurrence", "<init>", "(JLjava/lang/Long;)V"⟩ : MethodName)) rfl hown (mvT hZ (hw _ (List.mem_of_getElem? (i := 12) rfl))) (mvT hZ (hw _ (List.mem_of_getElem? (i := 13) rfl))) (mvT hZ (hw _ (List.mem_of_getElem? (i := 14) rfl))) (by decide) (backOf (W := 1) (rm2 l Z a0 hw [] b41 q0 c40  h41 n0 (Nat.le_trans Z0 K41.1) A41 F41_min F41_max (Nat.le_trans Z0 sz_b41)) hZ (hw _ (List.mem_of_getElem? (i := 14) rfl)) (hw _ (List.mem_of_getElem? (i := 11) rfl)) (by decide) (by decide)) (g := (mkF m 88 #[.val (.long q0), .second, .val (.long q1), .second, .val (.long q2), .second, .val (.int p3), .val (.int (0 : Int32)), .val (.int (((p3.toUInt32 >>> ((1 : Int32) &&& 31).toUInt32).toInt32) &&& (3 : Int32))), .val (.long ((q2 &&& (3 : Int64)) - (1 : Int64))), .second, .val (.long (q1 + ((q2 &&& (3 : Int64)) - (1 : Int64)))), .second, .val (.ref c40), .unset, .unset, .unset, .unset, .unset] [(.ref c40), (.long q0), (.ref b41), (.ref b41)])) rfl (by rw [hml]; rfl) (Steps.refl _) (a := b41) (argsL := [(.long q0), (.ref c40)]) (rest := [(.ref b41)]) (lenOf pd_4 rfl) rfl (by show 2 * 0 + _ ≤ _; exact Nat.le_of_eq rfl) (hb hby at_88) (fun _ _ => ⟨rfl, e41, (by decide : 2 + 0 ≤ _), (by decide : 3 + 0 ≤ _)⟩)
        dsimp only [Pt.U, Pt.locs, Pt.cells, Pt.slots] at X42 l42 y42 z42 st42 hQ42
        subst l42 y42 z42
        obtain ⟨rfl, N42q, K42q, E42q, F42q, G42q⟩ := hQ42
        have N42 := Fr.app N40 N42q
        have K42 : Keep h0 T42.heap [] := K41.trans K42q (allS (Or.inr sz_b41) all0)
        have B42 : Ext h0 T42.heap := own_keep_ext K42
        obtain ⟨cq43, kq43, q43a, q43b, q43c⟩ := isOf hZ rfl E42q
        obtain ⟨_, _, ⟨T43, L43, k43, n43⟩, -, X43, ⟨Lc43, hQ43, l43, y43, z43⟩, st43⟩ := X42.virtualBack hx (y := (⟨"com/example/lading/lading/core/Occurrence", "allows", "(J)Z"⟩ : MethodName)) (z := (⟨"com/example/lading/lading/core/Occurrence", "allows", "(J)Z"⟩ : MethodName)) hown (mvT hZ (hw _ (List.mem_of_getElem? (i := 22) rfl))) (mvT hZ (hw _ (List.mem_of_getElem? (i := 23) rfl))) (notFace_of_selects (args := #[]) (mvT hZ (hw _ (List.mem_of_getElem? (i := 25) rfl)))) (mvT hZ (hw _ (List.mem_of_getElem? (i := 25) rfl))) (mvT hZ (hw _ (List.mem_of_getElem? (i := 24) rfl))) (by decide) (backOf (W := 0) (rm4 l Z a0 hw [] b41 (q1 + ((q2 &&& (3 : Int64)) - (1 : Int64))) q0 c40 q1 T42.heap n0 (Nat.le_trans Z0 K42.1) F42q G42q ((E40q.ext E41).keep K42q) ((F40q.ext E41).keep K42q (ninS ne_c40_b41 nin0))) hZ (hw _ (List.mem_of_getElem? (i := 26) rfl)) (hw _ (List.mem_of_getElem? (i := 11) rfl)) (by decide) (by decide)) q43a q43c (g := (mkF m 97 #[.val (.long q0), .second, .val (.long q1), .second, .val (.long q2), .second, .val (.int p3), .val (.int (0 : Int32)), .val (.int (((p3.toUInt32 >>> ((1 : Int32) &&& 31).toUInt32).toInt32) &&& (3 : Int32))), .val (.long ((q2 &&& (3 : Int64)) - (1 : Int64))), .second, .val (.long (q1 + ((q2 &&& (3 : Int64)) - (1 : Int64)))), .second, .val (.ref c40), .val (.ref b41), .unset, .unset, .unset, .unset] [(.long (q1 + ((q2 &&& (3 : Int64)) - (1 : Int64)))), (.ref b41)])) rfl (by rw [hml]; rfl) (Steps.refl _) (argsL := [(.long (q1 + ((q2 &&& (3 : Int64)) - (1 : Int64))))]) (rest := []) (lenOf pd_5 rfl) rfl (by show 2 * 0 + _ ≤ _; exact Nat.le_of_eq rfl) (hb hby at_97) (fun _ _ => ⟨rfl, rfl, (by decide : 2 + 0 ≤ _), (by decide : 3 + 0 ≤ _)⟩)
        dsimp only [Pt.U, Pt.locs, Pt.cells, Pt.slots] at X43 l43 y43 z43 st43 hQ43
        subst l43 y43 z43
        obtain ⟨rfl, N43q, e43⟩ := hQ43
        have N43 := Fr.app N42 N43q
        refine own_go (A' := (T43.setTop (mkF m 104 #[.val (.long q0), .second, .val (.long q1), .second, .val (.long q2), .second, .val (.int p3), .val (.int (0 : Int32)), .val (.int (((p3.toUInt32 >>> ((1 : Int32) &&& 31).toUInt32).toInt32) &&& (3 : Int32))), .val (.long ((q2 &&& (3 : Int64)) - (1 : Int64))), .second, .val (.long (q1 + ((q2 &&& (3 : Int64)) - (1 : Int64)))), .second, .val (.ref c40), .val (.ref b41), .val (.int (alM q0 q1 (q1 + ((q2 &&& (3 : Int64)) - (1 : Int64))))), .unset, .unset, .unset] [(.int (0 : Int32))]))) (fun t k => ?_) ?_
        · show Steps p.tables e below (s₁.setTop (mkF m 75 #[.val (.long q0), .second, .val (.long q1), .second, .val (.long q2), .second, .val (.int p3), .val (.int (0 : Int32)), .val (.int (((p3.toUInt32 >>> ((1 : Int32) &&& 31).toUInt32).toInt32) &&& (3 : Int32))), .val (.long ((q2 &&& (3 : Int64)) - (1 : Int64))), .second, .val (.long (q1 + ((q2 &&& (3 : Int64)) - (1 : Int64)))), .second, .unset, .unset, .unset, .unset, .unset, .unset] [])) _
          refine XS.lloadN X0.here hx rfl (hb hby at_75) rfl ?_
          show Steps p.tables e below (s₁.setTop (mkF m 76 #[.val (.long q0), .second, .val (.long q1), .second, .val (.long q2), .second, .val (.int p3), .val (.int (0 : Int32)), .val (.int (((p3.toUInt32 >>> ((1 : Int32) &&& 31).toUInt32).toInt32) &&& (3 : Int32))), .val (.long ((q2 &&& (3 : Int64)) - (1 : Int64))), .second, .val (.long (q1 + ((q2 &&& (3 : Int64)) - (1 : Int64)))), .second, .unset, .unset, .unset, .unset, .unset, .unset] [(.long q1)])) _
          refine st40 _ ?_
          show Steps p.tables e below (T40.setTop (mkF m 79 #[.val (.long q0), .second, .val (.long q1), .second, .val (.long q2), .second, .val (.int p3), .val (.int (0 : Int32)), .val (.int (((p3.toUInt32 >>> ((1 : Int32) &&& 31).toUInt32).toInt32) &&& (3 : Int32))), .val (.long ((q2 &&& (3 : Int64)) - (1 : Int64))), .second, .val (.long (q1 + ((q2 &&& (3 : Int64)) - (1 : Int64)))), .second, .unset, .unset, .unset, .unset, .unset, .unset] [(.ref c40)])) _
          refine XS.astore X40.here hx rfl (hb hby at_79) rfl rfl (l' := #[.val (.long q0), .second, .val (.long q1), .second, .val (.long q2), .second, .val (.int p3), .val (.int (0 : Int32)), .val (.int (((p3.toUInt32 >>> ((1 : Int32) &&& 31).toUInt32).toInt32) &&& (3 : Int32))), .val (.long ((q2 &&& (3 : Int64)) - (1 : Int64))), .second, .val (.long (q1 + ((q2 &&& (3 : Int64)) - (1 : Int64)))), .second, .val (.ref c40), .unset, .unset, .unset, .unset, .unset]) rfl ?_
          show Steps p.tables e below (T40.setTop (mkF m 81 #[.val (.long q0), .second, .val (.long q1), .second, .val (.long q2), .second, .val (.int p3), .val (.int (0 : Int32)), .val (.int (((p3.toUInt32 >>> ((1 : Int32) &&& 31).toUInt32).toInt32) &&& (3 : Int32))), .val (.long ((q2 &&& (3 : Int64)) - (1 : Int64))), .second, .val (.long (q1 + ((q2 &&& (3 : Int64)) - (1 : Int64)))), .second, .val (.ref c40), .unset, .unset, .unset, .unset, .unset] [])) _
          refine st41 _ ?_
          show Steps p.tables e below (T41.setTop (mkF m 84 #[.val (.long q0), .second, .val (.long q1), .second, .val (.long q2), .second, .val (.int p3), .val (.int (0 : Int32)), .val (.int (((p3.toUInt32 >>> ((1 : Int32) &&& 31).toUInt32).toInt32) &&& (3 : Int32))), .val (.long ((q2 &&& (3 : Int64)) - (1 : Int64))), .second, .val (.long (q1 + ((q2 &&& (3 : Int64)) - (1 : Int64)))), .second, .val (.ref c40), .unset, .unset, .unset, .unset, .unset] [(.ref b41)])) _
          refine XS.dup X41.here hx rfl (hb hby at_84) rfl rfl ?_
          show Steps p.tables e below (T41.setTop (mkF m 85 #[.val (.long q0), .second, .val (.long q1), .second, .val (.long q2), .second, .val (.int p3), .val (.int (0 : Int32)), .val (.int (((p3.toUInt32 >>> ((1 : Int32) &&& 31).toUInt32).toInt32) &&& (3 : Int32))), .val (.long ((q2 &&& (3 : Int64)) - (1 : Int64))), .second, .val (.long (q1 + ((q2 &&& (3 : Int64)) - (1 : Int64)))), .second, .val (.ref c40), .unset, .unset, .unset, .unset, .unset] [(.ref b41), (.ref b41)])) _
          refine XS.lloadN X41.here hx rfl (hb hby at_85) rfl ?_
          show Steps p.tables e below (T41.setTop (mkF m 86 #[.val (.long q0), .second, .val (.long q1), .second, .val (.long q2), .second, .val (.int p3), .val (.int (0 : Int32)), .val (.int (((p3.toUInt32 >>> ((1 : Int32) &&& 31).toUInt32).toInt32) &&& (3 : Int32))), .val (.long ((q2 &&& (3 : Int64)) - (1 : Int64))), .second, .val (.long (q1 + ((q2 &&& (3 : Int64)) - (1 : Int64)))), .second, .val (.ref c40), .unset, .unset, .unset, .unset, .unset] [(.long q0), (.ref b41), (.ref b41)])) _
          refine XS.aload X41.here hx rfl (hb hby at_86) rfl rfl ?_
          show Steps p.tables e below (T41.setTop (mkF m 88 #[.val (.long q0), .second, .val (.long q1), .second, .val (.long q2), .second, .val (.int p3), .val (.int (0 : Int32)), .val (.int (((p3.toUInt32 >>> ((1 : Int32) &&& 31).toUInt32).toInt32) &&& (3 : Int32))), .val (.long ((q2 &&& (3 : Int64)) - (1 : Int64))), .second, .val (.long (q1 + ((q2 &&& (3 : Int64)) - (1 : Int64)))), .second, .val (.ref c40), .unset, .unset, .unset, .unset, .unset] [(.ref c40), (.long q0), (.ref b41), (.ref b41)])) _
          refine st42.trans ?_
          show Steps p.tables e below (T42.setTop (mkF m 91 #[.val (.long q0), .second, .val (.long q1), .second, .val (.long q2), .second, .val (.int p3), .val (.int (0 : Int32)), .val (.int (((p3.toUInt32 >>> ((1 : Int32) &&& 31).toUInt32).toInt32) &&& (3 : Int32))), .val (.long ((q2 &&& (3 : Int64)) - (1 : Int64))), .second, .val (.long (q1 + ((q2 &&& (3 : Int64)) - (1 : Int64)))), .second, .val (.ref c40), .unset, .unset, .unset, .unset, .unset] [(.ref b41)])) _
          refine XS.astore X42.here hx rfl (hb hby at_91) rfl rfl (l' := #[.val (.long q0), .second, .val (.long q1), .second, .val (.long q2), .second, .val (.int p3), .val (.int (0 : Int32)), .val (.int (((p3.toUInt32 >>> ((1 : Int32) &&& 31).toUInt32).toInt32) &&& (3 : Int32))), .val (.long ((q2 &&& (3 : Int64)) - (1 : Int64))), .second, .val (.long (q1 + ((q2 &&& (3 : Int64)) - (1 : Int64)))), .second, .val (.ref c40), .val (.ref b41), .unset, .unset, .unset, .unset]) rfl ?_
          show Steps p.tables e below (T42.setTop (mkF m 93 #[.val (.long q0), .second, .val (.long q1), .second, .val (.long q2), .second, .val (.int p3), .val (.int (0 : Int32)), .val (.int (((p3.toUInt32 >>> ((1 : Int32) &&& 31).toUInt32).toInt32) &&& (3 : Int32))), .val (.long ((q2 &&& (3 : Int64)) - (1 : Int64))), .second, .val (.long (q1 + ((q2 &&& (3 : Int64)) - (1 : Int64)))), .second, .val (.ref c40), .val (.ref b41), .unset, .unset, .unset, .unset] [])) _
          refine XS.aload X42.here hx rfl (hb hby at_93) rfl rfl ?_
          show Steps p.tables e below (T42.setTop (mkF m 95 #[.val (.long q0), .second, .val (.long q1), .second, .val (.long q2), .second, .val (.int p3), .val (.int (0 : Int32)), .val (.int (((p3.toUInt32 >>> ((1 : Int32) &&& 31).toUInt32).toInt32) &&& (3 : Int32))), .val (.long ((q2 &&& (3 : Int64)) - (1 : Int64))), .second, .val (.long (q1 + ((q2 &&& (3 : Int64)) - (1 : Int64)))), .second, .val (.ref c40), .val (.ref b41), .unset, .unset, .unset, .unset] [(.ref b41)])) _
          refine XS.lload X42.here hx rfl (hb hby at_95) rfl ?_
          show Steps p.tables e below (T42.setTop (mkF m 97 #[.val (.long q0), .second, .val (.long q1), .second, .val (.long q2), .second, .val (.int p3), .val (.int (0 : Int32)), .val (.int (((p3.toUInt32 >>> ((1 : Int32) &&& 31).toUInt32).toInt32) &&& (3 : Int32))), .val (.long ((q2 &&& (3 : Int64)) - (1 : Int64))), .second, .val (.long (q1 + ((q2 &&& (3 : Int64)) - (1 : Int64)))), .second, .val (.ref c40), .val (.ref b41), .unset, .unset, .unset, .unset] [(.long (q1 + ((q2 &&& (3 : Int64)) - (1 : Int64)))), (.ref b41)])) _
          refine st43.trans ?_
          show Steps p.tables e below (T43.setTop (mkF m 100 #[.val (.long q0), .second, .val (.long q1), .second, .val (.long q2), .second, .val (.int p3), .val (.int (0 : Int32)), .val (.int (((p3.toUInt32 >>> ((1 : Int32) &&& 31).toUInt32).toInt32) &&& (3 : Int32))), .val (.long ((q2 &&& (3 : Int64)) - (1 : Int64))), .second, .val (.long (q1 + ((q2 &&& (3 : Int64)) - (1 : Int64)))), .second, .val (.ref c40), .val (.ref b41), .unset, .unset, .unset, .unset] [(.int (alM q0 q1 (q1 + ((q2 &&& (3 : Int64)) - (1 : Int64)))))])) _
          refine XS.istore X43.here hx rfl (hb hby at_100) rfl (l' := #[.val (.long q0), .second, .val (.long q1), .second, .val (.long q2), .second, .val (.int p3), .val (.int (0 : Int32)), .val (.int (((p3.toUInt32 >>> ((1 : Int32) &&& 31).toUInt32).toInt32) &&& (3 : Int32))), .val (.long ((q2 &&& (3 : Int64)) - (1 : Int64))), .second, .val (.long (q1 + ((q2 &&& (3 : Int64)) - (1 : Int64)))), .second, .val (.ref c40), .val (.ref b41), .val (.int (alM q0 q1 (q1 + ((q2 &&& (3 : Int64)) - (1 : Int64))))), .unset, .unset, .unset]) rfl ?_
          show Steps p.tables e below (T43.setTop (mkF m 102 #[.val (.long q0), .second, .val (.long q1), .second, .val (.long q2), .second, .val (.int p3), .val (.int (0 : Int32)), .val (.int (((p3.toUInt32 >>> ((1 : Int32) &&& 31).toUInt32).toInt32) &&& (3 : Int32))), .val (.long ((q2 &&& (3 : Int64)) - (1 : Int64))), .second, .val (.long (q1 + ((q2 &&& (3 : Int64)) - (1 : Int64)))), .second, .val (.ref c40), .val (.ref b41), .val (.int (alM q0 q1 (q1 + ((q2 &&& (3 : Int64)) - (1 : Int64))))), .unset, .unset, .unset] [])) _
          refine XS.iload X43.here hx rfl (hb hby at_102) rfl ?_
          exact k
        refine own_go (A' := (T43.setTop (mkF m 113 #[.val (.long q0), .second, .val (.long q1), .second, .val (.long q2), .second, .val (.int p3), .val (.int (0 : Int32)), .val (.int (((p3.toUInt32 >>> ((1 : Int32) &&& 31).toUInt32).toInt32) &&& (3 : Int32))), .val (.long ((q2 &&& (3 : Int64)) - (1 : Int64))), .second, .val (.long (q1 + ((q2 &&& (3 : Int64)) - (1 : Int64)))), .second, .val (.ref c40), .val (.ref b41), .val (.int (alM q0 q1 (q1 + ((q2 &&& (3 : Int64)) - (1 : Int64))))), .unset, .unset, .unset] []))) (fun t k => XS.ifYes X43.here hx rfl (pc0 := 104) (pc' := 113) rfl (hb hby at_104) rfl ((if0 _ _).trans (teq (by decide : (0 : Int32) = (0 : Int32))).1) (by decide) (by decide) k) ?_
        refine own_go (A' := (T43.setTop (mkF m 120 #[.val (.long q0), .second, .val (.long q1), .second, .val (.long q2), .second, .val (.int p3), .val (.int (0 : Int32)), .val (.int (((p3.toUInt32 >>> ((1 : Int32) &&& 31).toUInt32).toInt32) &&& (3 : Int32))), .val (.long ((q2 &&& (3 : Int64)) - (1 : Int64))), .second, .val (.long (q1 + ((q2 &&& (3 : Int64)) - (1 : Int64)))), .second, .val (.ref c40), .val (.ref b41), .val (.int (alM q0 q1 (q1 + ((q2 &&& (3 : Int64)) - (1 : Int64))))), .val (.long q1), .second, .unset] [(.int (lcmpW q0 q1))]))) (fun t k => ?_) ?_
        · show Steps p.tables e below (T43.setTop (mkF m 113 #[.val (.long q0), .second, .val (.long q1), .second, .val (.long q2), .second, .val (.int p3), .val (.int (0 : Int32)), .val (.int (((p3.toUInt32 >>> ((1 : Int32) &&& 31).toUInt32).toInt32) &&& (3 : Int32))), .val (.long ((q2 &&& (3 : Int64)) - (1 : Int64))), .second, .val (.long (q1 + ((q2 &&& (3 : Int64)) - (1 : Int64)))), .second, .val (.ref c40), .val (.ref b41), .val (.int (alM q0 q1 (q1 + ((q2 &&& (3 : Int64)) - (1 : Int64))))), .unset, .unset, .unset] [])) _
          refine XS.lloadN X43.here hx rfl (hb hby at_113) rfl ?_
          show Steps p.tables e below (T43.setTop (mkF m 114 #[.val (.long q0), .second, .val (.long q1), .second, .val (.long q2), .second, .val (.int p3), .val (.int (0 : Int32)), .val (.int (((p3.toUInt32 >>> ((1 : Int32) &&& 31).toUInt32).toInt32) &&& (3 : Int32))), .val (.long ((q2 &&& (3 : Int64)) - (1 : Int64))), .second, .val (.long (q1 + ((q2 &&& (3 : Int64)) - (1 : Int64)))), .second, .val (.ref c40), .val (.ref b41), .val (.int (alM q0 q1 (q1 + ((q2 &&& (3 : Int64)) - (1 : Int64))))), .unset, .unset, .unset] [(.long q1)])) _
          refine XS.lstore X43.here hx rfl (hb hby at_114) rfl (l' := #[.val (.long q0), .second, .val (.long q1), .second, .val (.long q2), .second, .val (.int p3), .val (.int (0 : Int32)), .val (.int (((p3.toUInt32 >>> ((1 : Int32) &&& 31).toUInt32).toInt32) &&& (3 : Int32))), .val (.long ((q2 &&& (3 : Int64)) - (1 : Int64))), .second, .val (.long (q1 + ((q2 &&& (3 : Int64)) - (1 : Int64)))), .second, .val (.ref c40), .val (.ref b41), .val (.int (alM q0 q1 (q1 + ((q2 &&& (3 : Int64)) - (1 : Int64))))), .val (.long q1), .second, .unset]) rfl ?_
          show Steps p.tables e below (T43.setTop (mkF m 116 #[.val (.long q0), .second, .val (.long q1), .second, .val (.long q2), .second, .val (.int p3), .val (.int (0 : Int32)), .val (.int (((p3.toUInt32 >>> ((1 : Int32) &&& 31).toUInt32).toInt32) &&& (3 : Int32))), .val (.long ((q2 &&& (3 : Int64)) - (1 : Int64))), .second, .val (.long (q1 + ((q2 &&& (3 : Int64)) - (1 : Int64)))), .second, .val (.ref c40), .val (.ref b41), .val (.int (alM q0 q1 (q1 + ((q2 &&& (3 : Int64)) - (1 : Int64))))), .val (.long q1), .second, .unset] [])) _
          refine XS.lloadN X43.here hx rfl (hb hby at_116) rfl ?_
          show Steps p.tables e below (T43.setTop (mkF m 117 #[.val (.long q0), .second, .val (.long q1), .second, .val (.long q2), .second, .val (.int p3), .val (.int (0 : Int32)), .val (.int (((p3.toUInt32 >>> ((1 : Int32) &&& 31).toUInt32).toInt32) &&& (3 : Int32))), .val (.long ((q2 &&& (3 : Int64)) - (1 : Int64))), .second, .val (.long (q1 + ((q2 &&& (3 : Int64)) - (1 : Int64)))), .second, .val (.ref c40), .val (.ref b41), .val (.int (alM q0 q1 (q1 + ((q2 &&& (3 : Int64)) - (1 : Int64))))), .val (.long q1), .second, .unset] [(.long q0)])) _
          refine XS.lload X43.here hx rfl (hb hby at_117) rfl ?_
          show Steps p.tables e below (T43.setTop (mkF m 119 #[.val (.long q0), .second, .val (.long q1), .second, .val (.long q2), .second, .val (.int p3), .val (.int (0 : Int32)), .val (.int (((p3.toUInt32 >>> ((1 : Int32) &&& 31).toUInt32).toInt32) &&& (3 : Int32))), .val (.long ((q2 &&& (3 : Int64)) - (1 : Int64))), .second, .val (.long (q1 + ((q2 &&& (3 : Int64)) - (1 : Int64)))), .second, .val (.ref c40), .val (.ref b41), .val (.int (alM q0 q1 (q1 + ((q2 &&& (3 : Int64)) - (1 : Int64))))), .val (.long q1), .second, .unset] [(.long q1), (.long q0)])) _
          refine XS.lcmp X43.here hx rfl (hb hby at_119) rfl ?_
          exact k
        by_cases hc44 : (0 : Int32) < (lcmpW q0 q1)
        · -- hc44: yes
          refine own_go (A' := (T43.setTop (mkF m 144 #[.val (.long q0), .second, .val (.long q1), .second, .val (.long q2), .second, .val (.int p3), .val (.int (0 : Int32)), .val (.int (((p3.toUInt32 >>> ((1 : Int32) &&& 31).toUInt32).toInt32) &&& (3 : Int32))), .val (.long ((q2 &&& (3 : Int64)) - (1 : Int64))), .second, .val (.long (q1 + ((q2 &&& (3 : Int64)) - (1 : Int64)))), .second, .val (.ref c40), .val (.ref b41), .val (.int (alM q0 q1 (q1 + ((q2 &&& (3 : Int64)) - (1 : Int64))))), .val (.long q1), .second, .unset] []))) (fun t k => XS.ifYes X43.here hx rfl (pc0 := 120) (pc' := 144) rfl (hb hby at_120) rfl ((if0 _ _).trans (tlt hc44).2.2.1) (by decide) (by decide) k) ?_
          refine own_go (A' := (T43.setTop (mkF m 151 #[.val (.long q0), .second, .val (.long q1), .second, .val (.long q2), .second, .val (.int p3), .val (.int (0 : Int32)), .val (.int (((p3.toUInt32 >>> ((1 : Int32) &&& 31).toUInt32).toInt32) &&& (3 : Int32))), .val (.long ((q2 &&& (3 : Int64)) - (1 : Int64))), .second, .val (.long (q1 + ((q2 &&& (3 : Int64)) - (1 : Int64)))), .second, .val (.ref c40), .val (.ref b41), .val (.int (alM q0 q1 (q1 + ((q2 &&& (3 : Int64)) - (1 : Int64))))), .val (.long q1), .second, .val (.int (0 : Int32))] [(.int (0 : Int32)), (.int (alM q0 q1 (q1 + ((q2 &&& (3 : Int64)) - (1 : Int64)))))]))) (fun t k => ?_) ?_
          · show Steps p.tables e below (T43.setTop (mkF m 144 #[.val (.long q0), .second, .val (.long q1), .second, .val (.long q2), .second, .val (.int p3), .val (.int (0 : Int32)), .val (.int (((p3.toUInt32 >>> ((1 : Int32) &&& 31).toUInt32).toInt32) &&& (3 : Int32))), .val (.long ((q2 &&& (3 : Int64)) - (1 : Int64))), .second, .val (.long (q1 + ((q2 &&& (3 : Int64)) - (1 : Int64)))), .second, .val (.ref c40), .val (.ref b41), .val (.int (alM q0 q1 (q1 + ((q2 &&& (3 : Int64)) - (1 : Int64))))), .val (.long q1), .second, .unset] [])) _
            refine XS.iconst X43.here hx rfl (hb hby at_144) ?_
            show Steps p.tables e below (T43.setTop (mkF m 145 #[.val (.long q0), .second, .val (.long q1), .second, .val (.long q2), .second, .val (.int p3), .val (.int (0 : Int32)), .val (.int (((p3.toUInt32 >>> ((1 : Int32) &&& 31).toUInt32).toInt32) &&& (3 : Int32))), .val (.long ((q2 &&& (3 : Int64)) - (1 : Int64))), .second, .val (.long (q1 + ((q2 &&& (3 : Int64)) - (1 : Int64)))), .second, .val (.ref c40), .val (.ref b41), .val (.int (alM q0 q1 (q1 + ((q2 &&& (3 : Int64)) - (1 : Int64))))), .val (.long q1), .second, .unset] [(.int (0 : Int32))])) _
            refine XS.istore X43.here hx rfl (hb hby at_145) rfl (l' := #[.val (.long q0), .second, .val (.long q1), .second, .val (.long q2), .second, .val (.int p3), .val (.int (0 : Int32)), .val (.int (((p3.toUInt32 >>> ((1 : Int32) &&& 31).toUInt32).toInt32) &&& (3 : Int32))), .val (.long ((q2 &&& (3 : Int64)) - (1 : Int64))), .second, .val (.long (q1 + ((q2 &&& (3 : Int64)) - (1 : Int64)))), .second, .val (.ref c40), .val (.ref b41), .val (.int (alM q0 q1 (q1 + ((q2 &&& (3 : Int64)) - (1 : Int64))))), .val (.long q1), .second, .val (.int (0 : Int32))]) rfl ?_
            show Steps p.tables e below (T43.setTop (mkF m 147 #[.val (.long q0), .second, .val (.long q1), .second, .val (.long q2), .second, .val (.int p3), .val (.int (0 : Int32)), .val (.int (((p3.toUInt32 >>> ((1 : Int32) &&& 31).toUInt32).toInt32) &&& (3 : Int32))), .val (.long ((q2 &&& (3 : Int64)) - (1 : Int64))), .second, .val (.long (q1 + ((q2 &&& (3 : Int64)) - (1 : Int64)))), .second, .val (.ref c40), .val (.ref b41), .val (.int (alM q0 q1 (q1 + ((q2 &&& (3 : Int64)) - (1 : Int64))))), .val (.long q1), .second, .val (.int (0 : Int32))] [])) _
            refine XS.iload X43.here hx rfl (hb hby at_147) rfl ?_
            show Steps p.tables e below (T43.setTop (mkF m 149 #[.val (.long q0), .second, .val (.long q1), .second, .val (.long q2), .second, .val (.int p3), .val (.int (0 : Int32)), .val (.int (((p3.toUInt32 >>> ((1 : Int32) &&& 31).toUInt32).toInt32) &&& (3 : Int32))), .val (.long ((q2 &&& (3 : Int64)) - (1 : Int64))), .second, .val (.long (q1 + ((q2 &&& (3 : Int64)) - (1 : Int64)))), .second, .val (.ref c40), .val (.ref b41), .val (.int (alM q0 q1 (q1 + ((q2 &&& (3 : Int64)) - (1 : Int64))))), .val (.long q1), .second, .val (.int (0 : Int32))] [(.int (alM q0 q1 (q1 + ((q2 &&& (3 : Int64)) - (1 : Int64)))))])) _
            refine XS.iload X43.here hx rfl (hb hby at_149) rfl ?_
            exact k
          refine own_go (A' := (T43.setTop (mkF m 154 #[.val (.long q0), .second, .val (.long q1), .second, .val (.long q2), .second, .val (.int p3), .val (.int (0 : Int32)), .val (.int (((p3.toUInt32 >>> ((1 : Int32) &&& 31).toUInt32).toInt32) &&& (3 : Int32))), .val (.long ((q2 &&& (3 : Int64)) - (1 : Int64))), .second, .val (.long (q1 + ((q2 &&& (3 : Int64)) - (1 : Int64)))), .second, .val (.ref c40), .val (.ref b41), .val (.int (alM q0 q1 (q1 + ((q2 &&& (3 : Int64)) - (1 : Int64))))), .val (.long q1), .second, .val (.int (0 : Int32))] []))) (fun t k => XS.icmpNo X43.here hx rfl (hb hby at_151) rfl (teq (own_A _ hc44)).2 k) ?_
          refine own_go (A' := (T43.setTop (mkF m 159 #[.val (.long q0), .second, .val (.long q1), .second, .val (.long q2), .second, .val (.int p3), .val (.int (0 : Int32)), .val (.int (((p3.toUInt32 >>> ((1 : Int32) &&& 31).toUInt32).toInt32) &&& (3 : Int32))), .val (.long ((q2 &&& (3 : Int64)) - (1 : Int64))), .second, .val (.long (q1 + ((q2 &&& (3 : Int64)) - (1 : Int64)))), .second, .val (.ref c40), .val (.ref b41), .val (.int (alM q0 q1 (q1 + ((q2 &&& (3 : Int64)) - (1 : Int64))))), .val (.long q1), .second, .val (.int (0 : Int32))] [(.int (1 : Int32))]))) (fun t k => ?_) ?_
          · show Steps p.tables e below (T43.setTop (mkF m 154 #[.val (.long q0), .second, .val (.long q1), .second, .val (.long q2), .second, .val (.int p3), .val (.int (0 : Int32)), .val (.int (((p3.toUInt32 >>> ((1 : Int32) &&& 31).toUInt32).toInt32) &&& (3 : Int32))), .val (.long ((q2 &&& (3 : Int64)) - (1 : Int64))), .second, .val (.long (q1 + ((q2 &&& (3 : Int64)) - (1 : Int64)))), .second, .val (.ref c40), .val (.ref b41), .val (.int (alM q0 q1 (q1 + ((q2 &&& (3 : Int64)) - (1 : Int64))))), .val (.long q1), .second, .val (.int (0 : Int32))] [])) _
            refine XS.iconst X43.here hx rfl (hb hby at_154) ?_
            show Steps p.tables e below (T43.setTop (mkF m 155 #[.val (.long q0), .second, .val (.long q1), .second, .val (.long q2), .second, .val (.int p3), .val (.int (0 : Int32)), .val (.int (((p3.toUInt32 >>> ((1 : Int32) &&& 31).toUInt32).toInt32) &&& (3 : Int32))), .val (.long ((q2 &&& (3 : Int64)) - (1 : Int64))), .second, .val (.long (q1 + ((q2 &&& (3 : Int64)) - (1 : Int64)))), .second, .val (.ref c40), .val (.ref b41), .val (.int (alM q0 q1 (q1 + ((q2 &&& (3 : Int64)) - (1 : Int64))))), .val (.long q1), .second, .val (.int (0 : Int32))] [(.int (1 : Int32))])) _
            refine XS.goto X43.here hx rfl (pc0 := 155) (pc' := 159) rfl (hb hby at_155) (by decide) (by decide) ?_
            exact k
          obtain ⟨fs, hr, hrun, hended, hW, hsame⟩ := X43.leave (v := some (.int (1 : Int32))) (fun h => by rw [Bd.returns] at h; cases h) hlk
          refine ⟨_, _, ?_, hrun, hended, _, _, rfl, ?_, ⟨_, rfl⟩, hW, hsame.mono (by decide) (by decide)⟩
          · show Steps p.tables e below (T43.setTop (mkF m 159 #[.val (.long q0), .second, .val (.long q1), .second, .val (.long q2), .second, .val (.int p3), .val (.int (0 : Int32)), .val (.int (((p3.toUInt32 >>> ((1 : Int32) &&& 31).toUInt32).toInt32) &&& (3 : Int32))), .val (.long ((q2 &&& (3 : Int64)) - (1 : Int64))), .second, .val (.long (q1 + ((q2 &&& (3 : Int64)) - (1 : Int64)))), .second, .val (.ref c40), .val (.ref b41), .val (.int (alM q0 q1 (q1 + ((q2 &&& (3 : Int64)) - (1 : Int64))))), .val (.long q1), .second, .val (.int (0 : Int32))] [(.int (1 : Int32))])) _
            exact retN X43 hx (t := .boolean) Bd.returns (by simp) (hb hby at_159) hr
          · show Q0 Z q0 q1 q2 p3 wC clC h0 n0 _ T43.heap _
            exact ⟨rfl, N43⟩
        · -- hc44: no
          refine own_go (A' := (T43.setTop (mkF m 123 #[.val (.long q0), .second, .val (.long q1), .second, .val (.long q2), .second, .val (.int p3), .val (.int (0 : Int32)), .val (.int (((p3.toUInt32 >>> ((1 : Int32) &&& 31).toUInt32).toInt32) &&& (3 : Int32))), .val (.long ((q2 &&& (3 : Int64)) - (1 : Int64))), .second, .val (.long (q1 + ((q2 &&& (3 : Int64)) - (1 : Int64)))), .second, .val (.ref c40), .val (.ref b41), .val (.int (alM q0 q1 (q1 + ((q2 &&& (3 : Int64)) - (1 : Int64))))), .val (.long q1), .second, .unset] []))) (fun t k => XS.ifNo X43.here hx rfl (hb hby at_120) rfl ((if0 _ _).trans (flt hc44).2.2.1) k) ?_
          obtain ⟨_, _, ⟨T45, L45, k45, n45⟩, -, X45, ⟨Lc45, hQ45, l45, y45, z45⟩, st45⟩ := Jvm.LawKit.callS X43 hx (y := (⟨"java/lang/Math", "max", "(JJ)J"⟩ : MethodName)) hown (mvT hZ (hw _ (List.mem_of_getElem? (i := 47) rfl))) (mvT hZ (hw _ (List.mem_of_getElem? (i := 48) rfl))) (mvT hZ (hw _ (List.mem_of_getElem? (i := 49) rfl))) (mvT hZ (hw _ (List.mem_of_getElem? (i := 50) rfl))) (by decide) (backOf (W := 0) (rm8 l Z a0 hw [] (q1 + ((q2 &&& (3 : Int64)) - (1 : Int64))) q0  T42.heap n0 (Nat.le_trans Z0 K42.1) ) hZ (hw _ (List.mem_of_getElem? (i := 50) rfl)) (hw _ (List.mem_of_getElem? (i := 49) rfl)) (by decide) (by decide)) (g := (mkF m 126 #[.val (.long q0), .second, .val (.long q1), .second, .val (.long q2), .second, .val (.int p3), .val (.int (0 : Int32)), .val (.int (((p3.toUInt32 >>> ((1 : Int32) &&& 31).toUInt32).toInt32) &&& (3 : Int32))), .val (.long ((q2 &&& (3 : Int64)) - (1 : Int64))), .second, .val (.long (q1 + ((q2 &&& (3 : Int64)) - (1 : Int64)))), .second, .val (.ref c40), .val (.ref b41), .val (.int (alM q0 q1 (q1 + ((q2 &&& (3 : Int64)) - (1 : Int64))))), .val (.long q1), .second, .unset] [(.long q0), (.long (q1 + ((q2 &&& (3 : Int64)) - (1 : Int64))))])) rfl (by rw [hml]; rfl) (argsL := [(.long (q1 + ((q2 &&& (3 : Int64)) - (1 : Int64)))), (.long q0)]) (rest := []) (lenOf pd_6 rfl) rfl (by show 2 * 0 + _ ≤ _; exact Nat.le_of_eq rfl) (hb hby at_126) (fun _ _ => ⟨rfl, e43, (by decide : 2 + 0 ≤ _), (by decide : 3 + 0 ≤ _)⟩)
          dsimp only [Pt.U, Pt.locs, Pt.cells, Pt.slots] at X45 l45 y45 z45 st45 hQ45
          subst l45 y45 z45
          obtain ⟨rfl, N45q, e45⟩ := hQ45
          have N45 := Fr.app N43 N45q
          obtain ⟨_, _, ⟨T46, L46, k46, n46⟩, -, X46, ⟨Lc46, hQ46, l46, y46, z46⟩, st46⟩ := Jvm.LawKit.callS X45 hx (y := (⟨"java/lang/Math", "min", "(JJ)J"⟩ : MethodName)) hown (mvT hZ (hw _ (List.mem_of_getElem? (i := 51) rfl))) (mvT hZ (hw _ (List.mem_of_getElem? (i := 52) rfl))) (mvT hZ (hw _ (List.mem_of_getElem? (i := 49) rfl))) (mvT hZ (hw _ (List.mem_of_getElem? (i := 53) rfl))) (by decide) (backOf (W := 0) (rm9 l Z a0 hw [] (mxL (q1 + ((q2 &&& (3 : Int64)) - (1 : Int64))) q0) q1  T42.heap n0 (Nat.le_trans Z0 K42.1) ) hZ (hw _ (List.mem_of_getElem? (i := 53) rfl)) (hw _ (List.mem_of_getElem? (i := 49) rfl)) (by decide) (by decide)) (g := (mkF m 131 #[.val (.long q0), .second, .val (.long q1), .second, .val (.long q2), .second, .val (.int p3), .val (.int (0 : Int32)), .val (.int (((p3.toUInt32 >>> ((1 : Int32) &&& 31).toUInt32).toInt32) &&& (3 : Int32))), .val (.long ((q2 &&& (3 : Int64)) - (1 : Int64))), .second, .val (.long (q1 + ((q2 &&& (3 : Int64)) - (1 : Int64)))), .second, .val (.ref c40), .val (.ref b41), .val (.int (alM q0 q1 (q1 + ((q2 &&& (3 : Int64)) - (1 : Int64))))), .val (.long q1), .second, .unset] [(.long q1), (.long (mxL (q1 + ((q2 &&& (3 : Int64)) - (1 : Int64))) q0))])) rfl (by rw [hml]; rfl) (argsL := [(.long (mxL (q1 + ((q2 &&& (3 : Int64)) - (1 : Int64))) q0)), (.long q1)]) (rest := []) (lenOf pd_6 rfl) rfl (by show 2 * 0 + _ ≤ _; exact Nat.le_of_eq rfl) (hb hby at_131) (fun _ _ => ⟨rfl, e45, (by decide : 2 + 0 ≤ _), (by decide : 3 + 0 ≤ _)⟩)
          dsimp only [Pt.U, Pt.locs, Pt.cells, Pt.slots] at X46 l46 y46 z46 st46 hQ46
          subst l46 y46 z46
          obtain ⟨rfl, N46q, e46⟩ := hQ46
          have N46 := Fr.app N45 N46q
          refine own_go (A' := (T46.setTop (mkF m 137 #[.val (.long q0), .second, .val (.long q1), .second, .val (.long q2), .second, .val (.int p3), .val (.int (0 : Int32)), .val (.int (((p3.toUInt32 >>> ((1 : Int32) &&& 31).toUInt32).toInt32) &&& (3 : Int32))), .val (.long ((q2 &&& (3 : Int64)) - (1 : Int64))), .second, .val (.long (q1 + ((q2 &&& (3 : Int64)) - (1 : Int64)))), .second, .val (.ref c40), .val (.ref b41), .val (.int (alM q0 q1 (q1 + ((q2 &&& (3 : Int64)) - (1 : Int64))))), .val (.long q1), .second, .unset] [(.int (lcmpW (mnL (mxL (q1 + ((q2 &&& (3 : Int64)) - (1 : Int64))) q0) q1) (q1 + ((q2 &&& (3 : Int64)) - (1 : Int64)))))]))) (fun t k => ?_) ?_
          · show Steps p.tables e below (T43.setTop (mkF m 123 #[.val (.long q0), .second, .val (.long q1), .second, .val (.long q2), .second, .val (.int p3), .val (.int (0 : Int32)), .val (.int (((p3.toUInt32 >>> ((1 : Int32) &&& 31).toUInt32).toInt32) &&& (3 : Int32))), .val (.long ((q2 &&& (3 : Int64)) - (1 : Int64))), .second, .val (.long (q1 + ((q2 &&& (3 : Int64)) - (1 : Int64)))), .second, .val (.ref c40), .val (.ref b41), .val (.int (alM q0 q1 (q1 + ((q2 &&& (3 : Int64)) - (1 : Int64))))), .val (.long q1), .second, .unset] [])) _
            refine XS.lload X43.here hx rfl (hb hby at_123) rfl ?_
            show Steps p.tables e below (T43.setTop (mkF m 125 #[.val (.long q0), .second, .val (.long q1), .second, .val (.long q2), .second, .val (.int p3), .val (.int (0 : Int32)), .val (.int (((p3.toUInt32 >>> ((1 : Int32) &&& 31).toUInt32).toInt32) &&& (3 : Int32))), .val (.long ((q2 &&& (3 : Int64)) - (1 : Int64))), .second, .val (.long (q1 + ((q2 &&& (3 : Int64)) - (1 : Int64)))), .second, .val (.ref c40), .val (.ref b41), .val (.int (alM q0 q1 (q1 + ((q2 &&& (3 : Int64)) - (1 : Int64))))), .val (.long q1), .second, .unset] [(.long (q1 + ((q2 &&& (3 : Int64)) - (1 : Int64))))])) _
            refine XS.lloadN X43.here hx rfl (hb hby at_125) rfl ?_
            show Steps p.tables e below (T43.setTop (mkF m 126 #[.val (.long q0), .second, .val (.long q1), .second, .val (.long q2), .second, .val (.int p3), .val (.int (0 : Int32)), .val (.int (((p3.toUInt32 >>> ((1 : Int32) &&& 31).toUInt32).toInt32) &&& (3 : Int32))), .val (.long ((q2 &&& (3 : Int64)) - (1 : Int64))), .second, .val (.long (q1 + ((q2 &&& (3 : Int64)) - (1 : Int64)))), .second, .val (.ref c40), .val (.ref b41), .val (.int (alM q0 q1 (q1 + ((q2 &&& (3 : Int64)) - (1 : Int64))))), .val (.long q1), .second, .unset] [(.long q0), (.long (q1 + ((q2 &&& (3 : Int64)) - (1 : Int64))))])) _
            refine st45 _ ?_
            show Steps p.tables e below (T45.setTop (mkF m 129 #[.val (.long q0), .second, .val (.long q1), .second, .val (.long q2), .second, .val (.int p3), .val (.int (0 : Int32)), .val (.int (((p3.toUInt32 >>> ((1 : Int32) &&& 31).toUInt32).toInt32) &&& (3 : Int32))), .val (.long ((q2 &&& (3 : Int64)) - (1 : Int64))), .second, .val (.long (q1 + ((q2 &&& (3 : Int64)) - (1 : Int64)))), .second, .val (.ref c40), .val (.ref b41), .val (.int (alM q0 q1 (q1 + ((q2 &&& (3 : Int64)) - (1 : Int64))))), .val (.long q1), .second, .unset] [(.long (mxL (q1 + ((q2 &&& (3 : Int64)) - (1 : Int64))) q0))])) _
            refine XS.lload X45.here hx rfl (hb hby at_129) rfl ?_
            show Steps p.tables e below (T45.setTop (mkF m 131 #[.val (.long q0), .second, .val (.long q1), .second, .val (.long q2), .second, .val (.int p3), .val (.int (0 : Int32)), .val (.int (((p3.toUInt32 >>> ((1 : Int32) &&& 31).toUInt32).toInt32) &&& (3 : Int32))), .val (.long ((q2 &&& (3 : Int64)) - (1 : Int64))), .second, .val (.long (q1 + ((q2 &&& (3 : Int64)) - (1 : Int64)))), .second, .val (.ref c40), .val (.ref b41), .val (.int (alM q0 q1 (q1 + ((q2 &&& (3 : Int64)) - (1 : Int64))))), .val (.long q1), .second, .unset] [(.long q1), (.long (mxL (q1 + ((q2 &&& (3 : Int64)) - (1 : Int64))) q0))])) _
            refine st46 _ ?_
            show Steps p.tables e below (T46.setTop (mkF m 134 #[.val (.long q0), .second, .val (.long q1), .second, .val (.long q2), .second, .val (.int p3), .val (.int (0 : Int32)), .val (.int (((p3.toUInt32 >>> ((1 : Int32) &&& 31).toUInt32).toInt32) &&& (3 : Int32))), .val (.long ((q2 &&& (3 : Int64)) - (1 : Int64))), .second, .val (.long (q1 + ((q2 &&& (3 : Int64)) - (1 : Int64)))), .second, .val (.ref c40), .val (.ref b41), .val (.int (alM q0 q1 (q1 + ((q2 &&& (3 : Int64)) - (1 : Int64))))), .val (.long q1), .second, .unset] [(.long (mnL (mxL (q1 + ((q2 &&& (3 : Int64)) - (1 : Int64))) q0) q1))])) _
            refine XS.lload X46.here hx rfl (hb hby at_134) rfl ?_
            show Steps p.tables e below (T46.setTop (mkF m 136 #[.val (.long q0), .second, .val (.long q1), .second, .val (.long q2), .second, .val (.int p3), .val (.int (0 : Int32)), .val (.int (((p3.toUInt32 >>> ((1 : Int32) &&& 31).toUInt32).toInt32) &&& (3 : Int32))), .val (.long ((q2 &&& (3 : Int64)) - (1 : Int64))), .second, .val (.long (q1 + ((q2 &&& (3 : Int64)) - (1 : Int64)))), .second, .val (.ref c40), .val (.ref b41), .val (.int (alM q0 q1 (q1 + ((q2 &&& (3 : Int64)) - (1 : Int64))))), .val (.long q1), .second, .unset] [(.long (q1 + ((q2 &&& (3 : Int64)) - (1 : Int64)))), (.long (mnL (mxL (q1 + ((q2 &&& (3 : Int64)) - (1 : Int64))) q0) q1))])) _
            refine XS.lcmp X46.here hx rfl (hb hby at_136) rfl ?_
            exact k
          by_cases hc47 : (lcmpW (mnL (mxL (q1 + ((q2 &&& (3 : Int64)) - (1 : Int64))) q0) q1) (q1 + ((q2 &&& (3 : Int64)) - (1 : Int64)))) = (0 : Int32)
          · -- hc47: yes
            refine own_go (A' := (T46.setTop (mkF m 140 #[.val (.long q0), .second, .val (.long q1), .second, .val (.long q2), .second, .val (.int p3), .val (.int (0 : Int32)), .val (.int (((p3.toUInt32 >>> ((1 : Int32) &&& 31).toUInt32).toInt32) &&& (3 : Int32))), .val (.long ((q2 &&& (3 : Int64)) - (1 : Int64))), .second, .val (.long (q1 + ((q2 &&& (3 : Int64)) - (1 : Int64)))), .second, .val (.ref c40), .val (.ref b41), .val (.int (alM q0 q1 (q1 + ((q2 &&& (3 : Int64)) - (1 : Int64))))), .val (.long q1), .second, .unset] []))) (fun t k => XS.ifNo X46.here hx rfl (hb hby at_137) rfl ((if0 _ _).trans (teq hc47).2) k) ?_
            refine own_go (A' := (T46.setTop (mkF m 151 #[.val (.long q0), .second, .val (.long q1), .second, .val (.long q2), .second, .val (.int p3), .val (.int (0 : Int32)), .val (.int (((p3.toUInt32 >>> ((1 : Int32) &&& 31).toUInt32).toInt32) &&& (3 : Int32))), .val (.long ((q2 &&& (3 : Int64)) - (1 : Int64))), .second, .val (.long (q1 + ((q2 &&& (3 : Int64)) - (1 : Int64)))), .second, .val (.ref c40), .val (.ref b41), .val (.int (alM q0 q1 (q1 + ((q2 &&& (3 : Int64)) - (1 : Int64))))), .val (.long q1), .second, .val (.int (1 : Int32))] [(.int (1 : Int32)), (.int (alM q0 q1 (q1 + ((q2 &&& (3 : Int64)) - (1 : Int64)))))]))) (fun t k => ?_) ?_
            · show Steps p.tables e below (T46.setTop (mkF m 140 #[.val (.long q0), .second, .val (.long q1), .second, .val (.long q2), .second, .val (.int p3), .val (.int (0 : Int32)), .val (.int (((p3.toUInt32 >>> ((1 : Int32) &&& 31).toUInt32).toInt32) &&& (3 : Int32))), .val (.long ((q2 &&& (3 : Int64)) - (1 : Int64))), .second, .val (.long (q1 + ((q2 &&& (3 : Int64)) - (1 : Int64)))), .second, .val (.ref c40), .val (.ref b41), .val (.int (alM q0 q1 (q1 + ((q2 &&& (3 : Int64)) - (1 : Int64))))), .val (.long q1), .second, .unset] [])) _
              refine XS.iconst X46.here hx rfl (hb hby at_140) ?_
              show Steps p.tables e below (T46.setTop (mkF m 141 #[.val (.long q0), .second, .val (.long q1), .second, .val (.long q2), .second, .val (.int p3), .val (.int (0 : Int32)), .val (.int (((p3.toUInt32 >>> ((1 : Int32) &&& 31).toUInt32).toInt32) &&& (3 : Int32))), .val (.long ((q2 &&& (3 : Int64)) - (1 : Int64))), .second, .val (.long (q1 + ((q2 &&& (3 : Int64)) - (1 : Int64)))), .second, .val (.ref c40), .val (.ref b41), .val (.int (alM q0 q1 (q1 + ((q2 &&& (3 : Int64)) - (1 : Int64))))), .val (.long q1), .second, .unset] [(.int (1 : Int32))])) _
              refine XS.goto X46.here hx rfl (pc0 := 141) (pc' := 145) rfl (hb hby at_141) (by decide) (by decide) ?_
              show Steps p.tables e below (T46.setTop (mkF m 145 #[.val (.long q0), .second, .val (.long q1), .second, .val (.long q2), .second, .val (.int p3), .val (.int (0 : Int32)), .val (.int (((p3.toUInt32 >>> ((1 : Int32) &&& 31).toUInt32).toInt32) &&& (3 : Int32))), .val (.long ((q2 &&& (3 : Int64)) - (1 : Int64))), .second, .val (.long (q1 + ((q2 &&& (3 : Int64)) - (1 : Int64)))), .second, .val (.ref c40), .val (.ref b41), .val (.int (alM q0 q1 (q1 + ((q2 &&& (3 : Int64)) - (1 : Int64))))), .val (.long q1), .second, .unset] [(.int (1 : Int32))])) _
              refine XS.istore X46.here hx rfl (hb hby at_145) rfl (l' := #[.val (.long q0), .second, .val (.long q1), .second, .val (.long q2), .second, .val (.int p3), .val (.int (0 : Int32)), .val (.int (((p3.toUInt32 >>> ((1 : Int32) &&& 31).toUInt32).toInt32) &&& (3 : Int32))), .val (.long ((q2 &&& (3 : Int64)) - (1 : Int64))), .second, .val (.long (q1 + ((q2 &&& (3 : Int64)) - (1 : Int64)))), .second, .val (.ref c40), .val (.ref b41), .val (.int (alM q0 q1 (q1 + ((q2 &&& (3 : Int64)) - (1 : Int64))))), .val (.long q1), .second, .val (.int (1 : Int32))]) rfl ?_
              show Steps p.tables e below (T46.setTop (mkF m 147 #[.val (.long q0), .second, .val (.long q1), .second, .val (.long q2), .second, .val (.int p3), .val (.int (0 : Int32)), .val (.int (((p3.toUInt32 >>> ((1 : Int32) &&& 31).toUInt32).toInt32) &&& (3 : Int32))), .val (.long ((q2 &&& (3 : Int64)) - (1 : Int64))), .second, .val (.long (q1 + ((q2 &&& (3 : Int64)) - (1 : Int64)))), .second, .val (.ref c40), .val (.ref b41), .val (.int (alM q0 q1 (q1 + ((q2 &&& (3 : Int64)) - (1 : Int64))))), .val (.long q1), .second, .val (.int (1 : Int32))] [])) _
              refine XS.iload X46.here hx rfl (hb hby at_147) rfl ?_
              show Steps p.tables e below (T46.setTop (mkF m 149 #[.val (.long q0), .second, .val (.long q1), .second, .val (.long q2), .second, .val (.int p3), .val (.int (0 : Int32)), .val (.int (((p3.toUInt32 >>> ((1 : Int32) &&& 31).toUInt32).toInt32) &&& (3 : Int32))), .val (.long ((q2 &&& (3 : Int64)) - (1 : Int64))), .second, .val (.long (q1 + ((q2 &&& (3 : Int64)) - (1 : Int64)))), .second, .val (.ref c40), .val (.ref b41), .val (.int (alM q0 q1 (q1 + ((q2 &&& (3 : Int64)) - (1 : Int64))))), .val (.long q1), .second, .val (.int (1 : Int32))] [(.int (alM q0 q1 (q1 + ((q2 &&& (3 : Int64)) - (1 : Int64)))))])) _
              refine XS.iload X46.here hx rfl (hb hby at_149) rfl ?_
              exact k
            refine own_go (A' := (T46.setTop (mkF m 154 #[.val (.long q0), .second, .val (.long q1), .second, .val (.long q2), .second, .val (.int p3), .val (.int (0 : Int32)), .val (.int (((p3.toUInt32 >>> ((1 : Int32) &&& 31).toUInt32).toInt32) &&& (3 : Int32))), .val (.long ((q2 &&& (3 : Int64)) - (1 : Int64))), .second, .val (.long (q1 + ((q2 &&& (3 : Int64)) - (1 : Int64)))), .second, .val (.ref c40), .val (.ref b41), .val (.int (alM q0 q1 (q1 + ((q2 &&& (3 : Int64)) - (1 : Int64))))), .val (.long q1), .second, .val (.int (1 : Int32))] []))) (fun t k => XS.icmpNo X46.here hx rfl (hb hby at_151) rfl (teq (own_B hc44 hc47)).2 k) ?_
            refine own_go (A' := (T46.setTop (mkF m 159 #[.val (.long q0), .second, .val (.long q1), .second, .val (.long q2), .second, .val (.int p3), .val (.int (0 : Int32)), .val (.int (((p3.toUInt32 >>> ((1 : Int32) &&& 31).toUInt32).toInt32) &&& (3 : Int32))), .val (.long ((q2 &&& (3 : Int64)) - (1 : Int64))), .second, .val (.long (q1 + ((q2 &&& (3 : Int64)) - (1 : Int64)))), .second, .val (.ref c40), .val (.ref b41), .val (.int (alM q0 q1 (q1 + ((q2 &&& (3 : Int64)) - (1 : Int64))))), .val (.long q1), .second, .val (.int (1 : Int32))] [(.int (1 : Int32))]))) (fun t k => ?_) ?_
            · show Steps p.tables e below (T46.setTop (mkF m 154 #[.val (.long q0), .second, .val (.long q1), .second, .val (.long q2), .second, .val (.int p3), .val (.int (0 : Int32)), .val (.int (((p3.toUInt32 >>> ((1 : Int32) &&& 31).toUInt32).toInt32) &&& (3 : Int32))), .val (.long ((q2 &&& (3 : Int64)) - (1 : Int64))), .second, .val (.long (q1 + ((q2 &&& (3 : Int64)) - (1 : Int64)))), .second, .val (.ref c40), .val (.ref b41), .val (.int (alM q0 q1 (q1 + ((q2 &&& (3 : Int64)) - (1 : Int64))))), .val (.long q1), .second, .val (.int (1 : Int32))] [])) _
              refine XS.iconst X46.here hx rfl (hb hby at_154) ?_
              show Steps p.tables e below (T46.setTop (mkF m 155 #[.val (.long q0), .second, .val (.long q1), .second, .val (.long q2), .second, .val (.int p3), .val (.int (0 : Int32)), .val (.int (((p3.toUInt32 >>> ((1 : Int32) &&& 31).toUInt32).toInt32) &&& (3 : Int32))), .val (.long ((q2 &&& (3 : Int64)) - (1 : Int64))), .second, .val (.long (q1 + ((q2 &&& (3 : Int64)) - (1 : Int64)))), .second, .val (.ref c40), .val (.ref b41), .val (.int (alM q0 q1 (q1 + ((q2 &&& (3 : Int64)) - (1 : Int64))))), .val (.long q1), .second, .val (.int (1 : Int32))] [(.int (1 : Int32))])) _
              refine XS.goto X46.here hx rfl (pc0 := 155) (pc' := 159) rfl (hb hby at_155) (by decide) (by decide) ?_
              exact k
            obtain ⟨fs, hr, hrun, hended, hW, hsame⟩ := X46.leave (v := some (.int (1 : Int32))) (fun h => by rw [Bd.returns] at h; cases h) hlk
            refine ⟨_, _, ?_, hrun, hended, _, _, rfl, ?_, ⟨_, rfl⟩, hW, hsame.mono (by decide) (by decide)⟩
            · show Steps p.tables e below (T46.setTop (mkF m 159 #[.val (.long q0), .second, .val (.long q1), .second, .val (.long q2), .second, .val (.int p3), .val (.int (0 : Int32)), .val (.int (((p3.toUInt32 >>> ((1 : Int32) &&& 31).toUInt32).toInt32) &&& (3 : Int32))), .val (.long ((q2 &&& (3 : Int64)) - (1 : Int64))), .second, .val (.long (q1 + ((q2 &&& (3 : Int64)) - (1 : Int64)))), .second, .val (.ref c40), .val (.ref b41), .val (.int (alM q0 q1 (q1 + ((q2 &&& (3 : Int64)) - (1 : Int64))))), .val (.long q1), .second, .val (.int (1 : Int32))] [(.int (1 : Int32))])) _
              exact retN X46 hx (t := .boolean) Bd.returns (by simp) (hb hby at_159) hr
            · show Q0 Z q0 q1 q2 p3 wC clC h0 n0 _ T46.heap _
              exact ⟨rfl, N46⟩
          · -- hc47: no
            refine own_go (A' := (T46.setTop (mkF m 144 #[.val (.long q0), .second, .val (.long q1), .second, .val (.long q2), .second, .val (.int p3), .val (.int (0 : Int32)), .val (.int (((p3.toUInt32 >>> ((1 : Int32) &&& 31).toUInt32).toInt32) &&& (3 : Int32))), .val (.long ((q2 &&& (3 : Int64)) - (1 : Int64))), .second, .val (.long (q1 + ((q2 &&& (3 : Int64)) - (1 : Int64)))), .second, .val (.ref c40), .val (.ref b41), .val (.int (alM q0 q1 (q1 + ((q2 &&& (3 : Int64)) - (1 : Int64))))), .val (.long q1), .second, .unset] []))) (fun t k => XS.ifYes X46.here hx rfl (pc0 := 137) (pc' := 144) rfl (hb hby at_137) rfl ((if0 _ _).trans (feq hc47).2) (by decide) (by decide) k) ?_
            refine own_go (A' := (T46.setTop (mkF m 151 #[.val (.long q0), .second, .val (.long q1), .second, .val (.long q2), .second, .val (.int p3), .val (.int (0 : Int32)), .val (.int (((p3.toUInt32 >>> ((1 : Int32) &&& 31).toUInt32).toInt32) &&& (3 : Int32))), .val (.long ((q2 &&& (3 : Int64)) - (1 : Int64))), .second, .val (.long (q1 + ((q2 &&& (3 : Int64)) - (1 : Int64)))), .second, .val (.ref c40), .val (.ref b41), .val (.int (alM q0 q1 (q1 + ((q2 &&& (3 : Int64)) - (1 : Int64))))), .val (.long q1), .second, .val (.int (0 : Int32))] [(.int (0 : Int32)), (.int (alM q0 q1 (q1 + ((q2 &&& (3 : Int64)) - (1 : Int64)))))]))) (fun t k => ?_) ?_
            · show Steps p.tables e below (T46.setTop (mkF m 144 #[.val (.long q0), .second, .val (.long q1), .second, .val (.long q2), .second, .val (.int p3), .val (.int (0 : Int32)), .val (.int (((p3.toUInt32 >>> ((1 : Int32) &&& 31).toUInt32).toInt32) &&& (3 : Int32))), .val (.long ((q2 &&& (3 : Int64)) - (1 : Int64))), .second, .val (.long (q1 + ((q2 &&& (3 : Int64)) - (1 : Int64)))), .second, .val (.ref c40), .val (.ref b41), .val (.int (alM q0 q1 (q1 + ((q2 &&& (3 : Int64)) - (1 : Int64))))), .val (.long q1), .second, .unset] [])) _
              refine XS.iconst X46.here hx rfl (hb hby at_144) ?_
              show Steps p.tables e below (T46.setTop (mkF m 145 #[.val (.long q0), .second, .val (.long q1), .second, .val (.long q2), .second, .val (.int p3), .val (.int (0 : Int32)), .val (.int (((p3.toUInt32 >>> ((1 : Int32) &&& 31).toUInt32).toInt32) &&& (3 : Int32))), .val (.long ((q2 &&& (3 : Int64)) - (1 : Int64))), .second, .val (.long (q1 + ((q2 &&& (3 : Int64)) - (1 : Int64)))), .second, .val (.ref c40), .val (.ref b41), .val (.int (alM q0 q1 (q1 + ((q2 &&& (3 : Int64)) - (1 : Int64))))), .val (.long q1), .second, .unset] [(.int (0 : Int32))])) _
              refine XS.istore X46.here hx rfl (hb hby at_145) rfl (l' := #[.val (.long q0), .second, .val (.long q1), .second, .val (.long q2), .second, .val (.int p3), .val (.int (0 : Int32)), .val (.int (((p3.toUInt32 >>> ((1 : Int32) &&& 31).toUInt32).toInt32) &&& (3 : Int32))), .val (.long ((q2 &&& (3 : Int64)) - (1 : Int64))), .second, .val (.long (q1 + ((q2 &&& (3 : Int64)) - (1 : Int64)))), .second, .val (.ref c40), .val (.ref b41), .val (.int (alM q0 q1 (q1 + ((q2 &&& (3 : Int64)) - (1 : Int64))))), .val (.long q1), .second, .val (.int (0 : Int32))]) rfl ?_
              show Steps p.tables e below (T46.setTop (mkF m 147 #[.val (.long q0), .second, .val (.long q1), .second, .val (.long q2), .second, .val (.int p3), .val (.int (0 : Int32)), .val (.int (((p3.toUInt32 >>> ((1 : Int32) &&& 31).toUInt32).toInt32) &&& (3 : Int32))), .val (.long ((q2 &&& (3 : Int64)) - (1 : Int64))), .second, .val (.long (q1 + ((q2 &&& (3 : Int64)) - (1 : Int64)))), .second, .val (.ref c40), .val (.ref b41), .val (.int (alM q0 q1 (q1 + ((q2 &&& (3 : Int64)) - (1 : Int64))))), .val (.long q1), .second, .val (.int (0 : Int32))] [])) _
              refine XS.iload X46.here hx rfl (hb hby at_147) rfl ?_
              show Steps p.tables e below (T46.setTop (mkF m 149 #[.val (.long q0), .second, .val (.long q1), .second, .val (.long q2), .second, .val (.int p3), .val (.int (0 : Int32)), .val (.int (((p3.toUInt32 >>> ((1 : Int32) &&& 31).toUInt32).toInt32) &&& (3 : Int32))), .val (.long ((q2 &&& (3 : Int64)) - (1 : Int64))), .second, .val (.long (q1 + ((q2 &&& (3 : Int64)) - (1 : Int64)))), .second, .val (.ref c40), .val (.ref b41), .val (.int (alM q0 q1 (q1 + ((q2 &&& (3 : Int64)) - (1 : Int64))))), .val (.long q1), .second, .val (.int (0 : Int32))] [(.int (alM q0 q1 (q1 + ((q2 &&& (3 : Int64)) - (1 : Int64)))))])) _
              refine XS.iload X46.here hx rfl (hb hby at_149) rfl ?_
              exact k
            refine own_go (A' := (T46.setTop (mkF m 154 #[.val (.long q0), .second, .val (.long q1), .second, .val (.long q2), .second, .val (.int p3), .val (.int (0 : Int32)), .val (.int (((p3.toUInt32 >>> ((1 : Int32) &&& 31).toUInt32).toInt32) &&& (3 : Int32))), .val (.long ((q2 &&& (3 : Int64)) - (1 : Int64))), .second, .val (.long (q1 + ((q2 &&& (3 : Int64)) - (1 : Int64)))), .second, .val (.ref c40), .val (.ref b41), .val (.int (alM q0 q1 (q1 + ((q2 &&& (3 : Int64)) - (1 : Int64))))), .val (.long q1), .second, .val (.int (0 : Int32))] []))) (fun t k => XS.icmpNo X46.here hx rfl (hb hby at_151) rfl (teq (own_C hc44 hc47)).2 k) ?_
            refine own_go (A' := (T46.setTop (mkF m 159 #[.val (.long q0), .second, .val (.long q1), .second, .val (.long q2), .second, .val (.int p3), .val (.int (0 : Int32)), .val (.int (((p3.toUInt32 >>> ((1 : Int32) &&& 31).toUInt32).toInt32) &&& (3 : Int32))), .val (.long ((q2 &&& (3 : Int64)) - (1 : Int64))), .second, .val (.long (q1 + ((q2 &&& (3 : Int64)) - (1 : Int64)))), .second, .val (.ref c40), .val (.ref b41), .val (.int (alM q0 q1 (q1 + ((q2 &&& (3 : Int64)) - (1 : Int64))))), .val (.long q1), .second, .val (.int (0 : Int32))] [(.int (1 : Int32))]))) (fun t k => ?_) ?_
            · show Steps p.tables e below (T46.setTop (mkF m 154 #[.val (.long q0), .second, .val (.long q1), .second, .val (.long q2), .second, .val (.int p3), .val (.int (0 : Int32)), .val (.int (((p3.toUInt32 >>> ((1 : Int32) &&& 31).toUInt32).toInt32) &&& (3 : Int32))), .val (.long ((q2 &&& (3 : Int64)) - (1 : Int64))), .second, .val (.long (q1 + ((q2 &&& (3 : Int64)) - (1 : Int64)))), .second, .val (.ref c40), .val (.ref b41), .val (.int (alM q0 q1 (q1 + ((q2 &&& (3 : Int64)) - (1 : Int64))))), .val (.long q1), .second, .val (.int (0 : Int32))] [])) _
              refine XS.iconst X46.here hx rfl (hb hby at_154) ?_
              show Steps p.tables e below (T46.setTop (mkF m 155 #[.val (.long q0), .second, .val (.long q1), .second, .val (.long q2), .second, .val (.int p3), .val (.int (0 : Int32)), .val (.int (((p3.toUInt32 >>> ((1 : Int32) &&& 31).toUInt32).toInt32) &&& (3 : Int32))), .val (.long ((q2 &&& (3 : Int64)) - (1 : Int64))), .second, .val (.long (q1 + ((q2 &&& (3 : Int64)) - (1 : Int64)))), .second, .val (.ref c40), .val (.ref b41), .val (.int (alM q0 q1 (q1 + ((q2 &&& (3 : Int64)) - (1 : Int64))))), .val (.long q1), .second, .val (.int (0 : Int32))] [(.int (1 : Int32))])) _
              refine XS.goto X46.here hx rfl (pc0 := 155) (pc' := 159) rfl (hb hby at_155) (by decide) (by decide) ?_
              exact k
            obtain ⟨fs, hr, hrun, hended, hW, hsame⟩ := X46.leave (v := some (.int (1 : Int32))) (fun h => by rw [Bd.returns] at h; cases h) hlk
            refine ⟨_, _, ?_, hrun, hended, _, _, rfl, ?_, ⟨_, rfl⟩, hW, hsame.mono (by decide) (by decide)⟩
            · show Steps p.tables e below (T46.setTop (mkF m 159 #[.val (.long q0), .second, .val (.long q1), .second, .val (.long q2), .second, .val (.int p3), .val (.int (0 : Int32)), .val (.int (((p3.toUInt32 >>> ((1 : Int32) &&& 31).toUInt32).toInt32) &&& (3 : Int32))), .val (.long ((q2 &&& (3 : Int64)) - (1 : Int64))), .second, .val (.long (q1 + ((q2 &&& (3 : Int64)) - (1 : Int64)))), .second, .val (.ref c40), .val (.ref b41), .val (.int (alM q0 q1 (q1 + ((q2 &&& (3 : Int64)) - (1 : Int64))))), .val (.long q1), .second, .val (.int (0 : Int32))] [(.int (1 : Int32))])) _
              exact retN X46 hx (t := .boolean) Bd.returns (by simp) (hb hby at_159) hr
            · show Q0 Z q0 q1 q2 p3 wC clC h0 n0 _ T46.heap _
              exact ⟨rfl, N46⟩
      · -- hc39: no
        refine own_go (A' := (s₁.setTop (mkF m 62 #[.val (.long q0), .second, .val (.long q1), .second, .val (.long q2), .second, .val (.int p3), .val (.int (0 : Int32)), .val (.int (((p3.toUInt32 >>> ((1 : Int32) &&& 31).toUInt32).toInt32) &&& (3 : Int32))), .val (.long ((q2 &&& (3 : Int64)) - (1 : Int64))), .second, .unset, .unset, .unset, .unset, .unset, .unset, .unset, .unset] []))) (fun t k => XS.icmpYes X0.here hx rfl (pc0 := 50) (pc' := 62) rfl (hb hby at_50) rfl (feq hc39).2 (by decide) (by decide) k) ?_
        refine own_go (A' := (s₁.setTop (mkF m 68 #[.val (.long q0), .second, .val (.long q1), .second, .val (.long q2), .second, .val (.int p3), .val (.int (0 : Int32)), .val (.int (((p3.toUInt32 >>> ((1 : Int32) &&& 31).toUInt32).toInt32) &&& (3 : Int32))), .val (.long ((q2 &&& (3 : Int64)) - (1 : Int64))), .second, .val (.long q2), .second, .unset, .unset, .unset, .unset, .unset, .unset] [(.int (0 : Int32))]))) (fun t k => ?_) ?_
        · show Steps p.tables e below (s₁.setTop (mkF m 62 #[.val (.long q0), .second, .val (.long q1), .second, .val (.long q2), .second, .val (.int p3), .val (.int (0 : Int32)), .val (.int (((p3.toUInt32 >>> ((1 : Int32) &&& 31).toUInt32).toInt32) &&& (3 : Int32))), .val (.long ((q2 &&& (3 : Int64)) - (1 : Int64))), .second, .unset, .unset, .unset, .unset, .unset, .unset, .unset, .unset] [])) _
          refine XS.lload X0.here hx rfl (hb hby at_62) rfl ?_
          show Steps p.tables e below (s₁.setTop (mkF m 64 #[.val (.long q0), .second, .val (.long q1), .second, .val (.long q2), .second, .val (.int p3), .val (.int (0 : Int32)), .val (.int (((p3.toUInt32 >>> ((1 : Int32) &&& 31).toUInt32).toInt32) &&& (3 : Int32))), .val (.long ((q2 &&& (3 : Int64)) - (1 : Int64))), .second, .unset, .unset, .unset, .unset, .unset, .unset, .unset, .unset] [(.long q2)])) _
          refine XS.lstore X0.here hx rfl (hb hby at_64) rfl (l' := #[.val (.long q0), .second, .val (.long q1), .second, .val (.long q2), .second, .val (.int p3), .val (.int (0 : Int32)), .val (.int (((p3.toUInt32 >>> ((1 : Int32) &&& 31).toUInt32).toInt32) &&& (3 : Int32))), .val (.long ((q2 &&& (3 : Int64)) - (1 : Int64))), .second, .val (.long q2), .second, .unset, .unset, .unset, .unset, .unset, .unset]) rfl ?_
          show Steps p.tables e below (s₁.setTop (mkF m 66 #[.val (.long q0), .second, .val (.long q1), .second, .val (.long q2), .second, .val (.int p3), .val (.int (0 : Int32)), .val (.int (((p3.toUInt32 >>> ((1 : Int32) &&& 31).toUInt32).toInt32) &&& (3 : Int32))), .val (.long ((q2 &&& (3 : Int64)) - (1 : Int64))), .second, .val (.long q2), .second, .unset, .unset, .unset, .unset, .unset, .unset] [])) _
          refine XS.iload X0.here hx rfl (hb hby at_66) rfl ?_
          exact k
        refine own_go (A' := (s₁.setTop (mkF m 75 #[.val (.long q0), .second, .val (.long q1), .second, .val (.long q2), .second, .val (.int p3), .val (.int (0 : Int32)), .val (.int (((p3.toUInt32 >>> ((1 : Int32) &&& 31).toUInt32).toInt32) &&& (3 : Int32))), .val (.long ((q2 &&& (3 : Int64)) - (1 : Int64))), .second, .val (.long q2), .second, .unset, .unset, .unset, .unset, .unset, .unset] []))) (fun t k => XS.ifYes X0.here hx rfl (pc0 := 68) (pc' := 75) rfl (hb hby at_68) rfl ((if0 _ _).trans (teq (by decide : (0 : Int32) = (0 : Int32))).1) (by decide) (by decide) k) ?_
        obtain ⟨_, _, ⟨T48, L48, k48, n48⟩, -, X48, ⟨Lc48, hQ48, l48, y48, z48⟩, st48⟩ := Jvm.LawKit.callS X0 hx (y := (⟨"java/lang/Long", "valueOf", "(J)Ljava/lang/Long;"⟩ : MethodName)) hown (mvT hZ (hw _ (List.mem_of_getElem? (i := 1) rfl))) (mvT hZ (hw _ (List.mem_of_getElem? (i := 2) rfl))) (mvT hZ (hw _ (List.mem_of_getElem? (i := 3) rfl))) (mvT hZ (hw _ (List.mem_of_getElem? (i := 4) rfl))) (by decide) (backOf (W := 0) (rm1 l Z a0 hw [] q1 wC clC h0 n0 Z0 S_cache Ar_C L_C P_C) hZ (hw _ (List.mem_of_getElem? (i := 4) rfl)) (hw _ (List.mem_of_getElem? (i := 3) rfl)) (by decide) (by decide)) (g := (mkF m 76 #[.val (.long q0), .second, .val (.long q1), .second, .val (.long q2), .second, .val (.int p3), .val (.int (0 : Int32)), .val (.int (((p3.toUInt32 >>> ((1 : Int32) &&& 31).toUInt32).toInt32) &&& (3 : Int32))), .val (.long ((q2 &&& (3 : Int64)) - (1 : Int64))), .second, .val (.long q2), .second, .unset, .unset, .unset, .unset, .unset, .unset] [(.long q1)])) rfl (by rw [hml]; rfl) (argsL := [(.long q1)]) (rest := []) (lenOf pd_3 rfl) rfl (by show 2 * 0 + _ ≤ _; exact Nat.le_of_eq rfl) (hb hby at_76) (fun _ _ => ⟨rfl, e0, (by decide : 0 + 1 ≤ _), (by decide : 0 + 1 ≤ _)⟩)
        dsimp only [Pt.U, Pt.locs, Pt.cells, Pt.slots] at X48 l48 y48 z48 st48 hQ48
        subst l48 y48 z48
        obtain ⟨c48, rfl, N48q, K48q, E48q, F48q⟩ := hQ48
        have N48 := Fr.app N0 N48q
        have K48 : Keep h0 T48.heap [] := (Keep.refl h0 []).trans K48q all0
        have B48 : Ext h0 T48.heap := own_keep_ext K48
        obtain ⟨T49, h49, X49, e49, E49, A49, D49, -, st49⟩ := newO X48 hx hZ hown (hw _ (List.mem_of_getElem? (i := 9) rfl)) (hw _ (List.mem_of_getElem? (i := 10) rfl)) (hw _ (List.mem_of_getElem? (i := 11) rfl)) rfl (g := (mkF m 81 #[.val (.long q0), .second, .val (.long q1), .second, .val (.long q2), .second, .val (.int p3), .val (.int (0 : Int32)), .val (.int (((p3.toUInt32 >>> ((1 : Int32) &&& 31).toUInt32).toInt32) &&& (3 : Int32))), .val (.long ((q2 &&& (3 : Int64)) - (1 : Int64))), .second, .val (.long q2), .second, .val (.ref c48), .unset, .unset, .unset, .unset, .unset] [])) rfl (hb hby at_81) (by decide) (by decide)
        obtain ⟨b49, g49⟩ : ∃ z, z = T48.heap.size := ⟨_, rfl⟩
        have sz_b49 : h0.size ≤ b49 := Nat.le_trans K48.1 (Nat.le_of_eq g49.symm)
        have ne_c48_b49 : c48 ≠ b49 := Nat.ne_of_lt (Nat.lt_of_lt_of_le E48q.lt (Nat.le_of_eq g49.symm))
        rw [← g49] at A49 D49 st49
        have K49 : Keep h0 h49 [] := K48.ext E49
        have B49 : Ext h0 h49 := own_keep_ext K49
        have F49_min : Fld Z h49 b49 "com/example/lading/lading/core/Occurrence" "min" "J" (.long (0 : Int64)) := D49 (Or.inr (hw _ (List.mem_of_getElem? (i := 19) rfl))) (ty := .long) (by decide)
        have F49_max : Fld Z h49 b49 "com/example/lading/lading/core/Occurrence" "max" "Ljava/lang/Long;" .null := D49 (Or.inr (hw _ (List.mem_of_getElem? (i := 21) rfl))) (ty := (.object "java/lang/Long")) (by decide)
        obtain ⟨_, _, ⟨T50, L50, k50, n50⟩, -, X50, ⟨Lc50, hQ50, l50, y50, z50⟩, st50⟩ := X49.specialBack hx (y := (⟨"com/example/lading/lading/core/Occurrence", "<init>", "(JLjava/lang/Long;)V"⟩ : MethodName)) rfl hown (mvT hZ (hw _ (List.mem_of_getElem? (i := 12) rfl))) (mvT hZ (hw _ (List.mem_of_getElem? (i := 13) rfl))) (mvT hZ (hw _ (List.mem_of_getElem? (i := 14) rfl))) (by decide) (backOf (W := 1) (rm2 l Z a0 hw [] b49 q0 c48  h49 n0 (Nat.le_trans Z0 K49.1) A49 F49_min F49_max (Nat.le_trans Z0 sz_b49)) hZ (hw _ (List.mem_of_getElem? (i := 14) rfl)) (hw _ (List.mem_of_getElem? (i := 11) rfl)) (by decide) (by decide)) (g := (mkF m 88 #[.val (.long q0), .second, .val (.long q1), .second, .val (.long q2), .second, .val (.int p3), .val (.int (0 : Int32)), .val (.int (((p3.toUInt32 >>> ((1 : Int32) &&& 31).toUInt32).toInt32) &&& (3 : Int32))), .val (.long ((q2 &&& (3 : Int64)) - (1 : Int64))), .second, .val (.long q2), .second, .val (.ref c48), .unset, .unset, .unset, .unset, .unset] [(.ref c48), (.long q0), (.ref b49), (.ref b49)])) rfl (by rw [hml]; rfl) (Steps.refl _) (a := b49) (argsL := [(.long q0), (.ref c48)]) (rest := [(.ref b49)]) (lenOf pd_4 rfl) rfl (by show 2 * 0 + _ ≤ _; exact Nat.le_of_eq rfl) (hb hby at_88) (fun _ _ => ⟨rfl, e49, (by decide : 2 + 0 ≤ _), (by decide : 3 + 0 ≤ _)⟩)
        dsimp only [Pt.U, Pt.locs, Pt.cells, Pt.slots] at X50 l50 y50 z50 st50 hQ50
        subst l50 y50 z50
        obtain ⟨rfl, N50q, K50q, E50q, F50q, G50q⟩ := hQ50
        have N50 := Fr.app N48 N50q
        have K50 : Keep h0 T50.heap [] := K49.trans K50q (allS (Or.inr sz_b49) all0)
        have B50 : Ext h0 T50.heap := own_keep_ext K50
        obtain ⟨cq51, kq51, q51a, q51b, q51c⟩ := isOf hZ rfl E50q
        obtain ⟨_, _, ⟨T51, L51, k51, n51⟩, -, X51, ⟨Lc51, hQ51, l51, y51, z51⟩, st51⟩ := X50.virtualBack hx (y := (⟨"com/example/lading/lading/core/Occurrence", "allows", "(J)Z"⟩ : MethodName)) (z := (⟨"com/example/lading/lading/core/Occurrence", "allows", "(J)Z"⟩ : MethodName)) hown (mvT hZ (hw _ (List.mem_of_getElem? (i := 22) rfl))) (mvT hZ (hw _ (List.mem_of_getElem? (i := 23) rfl))) (notFace_of_selects (args := #[]) (mvT hZ (hw _ (List.mem_of_getElem? (i := 25) rfl)))) (mvT hZ (hw _ (List.mem_of_getElem? (i := 25) rfl))) (mvT hZ (hw _ (List.mem_of_getElem? (i := 24) rfl))) (by decide) (backOf (W := 0) (rm4 l Z a0 hw [] b49 q2 q0 c48 q1 T50.heap n0 (Nat.le_trans Z0 K50.1) F50q G50q ((E48q.ext E49).keep K50q) ((F48q.ext E49).keep K50q (ninS ne_c48_b49 nin0))) hZ (hw _ (List.mem_of_getElem? (i := 26) rfl)) (hw _ (List.mem_of_getElem? (i := 11) rfl)) (by decide) (by decide)) q51a q51c (g := (mkF m 97 #[.val (.long q0), .second, .val (.long q1), .second, .val (.long q2), .second, .val (.int p3), .val (.int (0 : Int32)), .val (.int (((p3.toUInt32 >>> ((1 : Int32) &&& 31).toUInt32).toInt32) &&& (3 : Int32))), .val (.long ((q2 &&& (3 : Int64)) - (1 : Int64))), .second, .val (.long q2), .second, .val (.ref c48), .val (.ref b49), .unset, .unset, .unset, .unset] [(.long q2), (.ref b49)])) rfl (by rw [hml]; rfl) (Steps.refl _) (argsL := [(.long q2)]) (rest := []) (lenOf pd_5 rfl) rfl (by show 2 * 0 + _ ≤ _; exact Nat.le_of_eq rfl) (hb hby at_97) (fun _ _ => ⟨rfl, rfl, (by decide : 2 + 0 ≤ _), (by decide : 3 + 0 ≤ _)⟩)
        dsimp only [Pt.U, Pt.locs, Pt.cells, Pt.slots] at X51 l51 y51 z51 st51 hQ51
        subst l51 y51 z51
        obtain ⟨rfl, N51q, e51⟩ := hQ51
        have N51 := Fr.app N50 N51q
        refine own_go (A' := (T51.setTop (mkF m 104 #[.val (.long q0), .second, .val (.long q1), .second, .val (.long q2), .second, .val (.int p3), .val (.int (0 : Int32)), .val (.int (((p3.toUInt32 >>> ((1 : Int32) &&& 31).toUInt32).toInt32) &&& (3 : Int32))), .val (.long ((q2 &&& (3 : Int64)) - (1 : Int64))), .second, .val (.long q2), .second, .val (.ref c48), .val (.ref b49), .val (.int (alM q0 q1 q2)), .unset, .unset, .unset] [(.int (0 : Int32))]))) (fun t k => ?_) ?_
        · show Steps p.tables e below (s₁.setTop (mkF m 75 #[.val (.long q0), .second, .val (.long q1), .second, .val (.long q2), .second, .val (.int p3), .val (.int (0 : Int32)), .val (.int (((p3.toUInt32 >>> ((1 : Int32) &&& 31).toUInt32).toInt32) &&& (3 : Int32))), .val (.long ((q2 &&& (3 : Int64)) - (1 : Int64))), .second, .val (.long q2), .second, .unset, .unset, .unset, .unset, .unset, .unset] [])) _
          refine XS.lloadN X0.here hx rfl (hb hby at_75) rfl ?_
          show Steps p.tables e below (s₁.setTop (mkF m 76 #[.val (.long q0), .second, .val (.long q1), .second, .val (.long q2), .second, .val (.int p3), .val (.int (0 : Int32)), .val (.int (((p3.toUInt32 >>> ((1 : Int32) &&& 31).toUInt32).toInt32) &&& (3 : Int32))), .val (.long ((q2 &&& (3 : Int64)) - (1 : Int64))), .second, .val (.long q2), .second, .unset, .unset, .unset, .unset, .unset, .unset] [(.long q1)])) _
          refine st48 _ ?_
          show Steps p.tables e below (T48.setTop (mkF m 79 #[.val (.long q0), .second, .val (.long q1), .second, .val (.long q2), .second, .val (.int p3), .val (.int (0 : Int32)), .val (.int (((p3.toUInt32 >>> ((1 : Int32) &&& 31).toUInt32).toInt32) &&& (3 : Int32))), .val (.long ((q2 &&& (3 : Int64)) - (1 : Int64))), .second, .val (.long q2), .second, .unset, .unset, .unset, .unset, .unset, .unset] [(.ref c48)])) _
          refine XS.astore X48.here hx rfl (hb hby at_79) rfl rfl (l' := #[.val (.long q0), .second, .val (.long q1), .second, .val (.long q2), .second, .val (.int p3), .val (.int (0 : Int32)), .val (.int (((p3.toUInt32 >>> ((1 : Int32) &&& 31).toUInt32).toInt32) &&& (3 : Int32))), .val (.long ((q2 &&& (3 : Int64)) - (1 : Int64))), .second, .val (.long q2), .second, .val (.ref c48), .unset, .unset, .unset, .unset, .unset]) rfl ?_
          show Steps p.tables e below (T48.setTop (mkF m 81 #[.val (.long q0), .second, .val (.long q1), .second, .val (.long q2), .second, .val (.int p3), .val (.int (0 : Int32)), .val (.int (((p3.toUInt32 >>> ((1 : Int32) &&& 31).toUInt32).toInt32) &&& (3 : Int32))), .val (.long ((q2 &&& (3 : Int64)) - (1 : Int64))), .second, .val (.long q2), .second, .val (.ref c48), .unset, .unset, .unset, .unset, .unset] [])) _
          refine st49 _ ?_
          show Steps p.tables e below (T49.setTop (mkF m 84 #[.val (.long q0), .second, .val (.long q1), .second, .val (.long q2), .second, .val (.int p3), .val (.int (0 : Int32)), .val (.int (((p3.toUInt32 >>> ((1 : Int32) &&& 31).toUInt32).toInt32) &&& (3 : Int32))), .val (.long ((q2 &&& (3 : Int64)) - (1 : Int64))), .second, .val (.long q2), .second, .val (.ref c48), .unset, .unset, .unset, .unset, .unset] [(.ref b49)])) _
          refine XS.dup X49.here hx rfl (hb hby at_84) rfl rfl ?_
          show Steps p.tables e below (T49.setTop (mkF m 85 #[.val (.long q0), .second, .val (.long q1), .second, .val (.long q2), .second, .val (.int p3), .val (.int (0 : Int32)), .val (.int (((p3.toUInt32 >>> ((1 : Int32) &&& 31).toUInt32).toInt32) &&& (3 : Int32))), .val (.long ((q2 &&& (3 : Int64)) - (1 : Int64))), .second, .val (.long q2), .second, .val (.ref c48), .unset, .unset, .unset, .unset, .unset] [(.ref b49), (.ref b49)])) _
          refine XS.lloadN X49.here hx rfl (hb hby at_85) rfl ?_
          show Steps p.tables e below (T49.setTop (mkF m 86 #[.val (.long q0), .second, .val (.long q1), .second, .val (.long q2), .second, .val (.int p3), .val (.int (0 : Int32)), .val (.int (((p3.toUInt32 >>> ((1 : Int32) &&& 31).toUInt32).toInt32) &&& (3 : Int32))), .val (.long ((q2 &&& (3 : Int64)) - (1 : Int64))), .second, .val (.long q2), .second, .val (.ref c48), .unset, .unset, .unset, .unset, .unset] [(.long q0), (.ref b49), (.ref b49)])) _
          refine XS.aload X49.here hx rfl (hb hby at_86) rfl rfl ?_
          show Steps p.tables e below (T49.setTop (mkF m 88 #[.val (.long q0), .second, .val (.long q1), .second, .val (.long q2), .second, .val (.int p3), .val (.int (0 : Int32)), .val (.int (((p3.toUInt32 >>> ((1 : Int32) &&& 31).toUInt32).toInt32) &&& (3 : Int32))), .val (.long ((q2 &&& (3 : Int64)) - (1 : Int64))), .second, .val (.long q2), .second, .val (.ref c48), .unset, .unset, .unset, .unset, .unset] [(.ref c48), (.long q0), (.ref b49), (.ref b49)])) _
          refine st50.trans ?_
          show Steps p.tables e below (T50.setTop (mkF m 91 #[.val (.long q0), .second, .val (.long q1), .second, .val (.long q2), .second, .val (.int p3), .val (.int (0 : Int32)), .val (.int (((p3.toUInt32 >>> ((1 : Int32) &&& 31).toUInt32).toInt32) &&& (3 : Int32))), .val (.long ((q2 &&& (3 : Int64)) - (1 : Int64))), .second, .val (.long q2), .second, .val (.ref c48), .unset, .unset, .unset, .unset, .unset] [(.ref b49)])) _
          refine XS.astore X50.here hx rfl (hb hby at_91) rfl rfl (l' := #[.val (.long q0), .second, .val (.long q1), .second, .val (.long q2), .second, .val (.int p3), .val (.int (0 : Int32)), .val (.int (((p3.toUInt32 >>> ((1 : Int32) &&& 31).toUInt32).toInt32) &&& (3 : Int32))), .val (.long ((q2 &&& (3 : Int64)) - (1 : Int64))), .second, .val (.long q2), .second, .val (.ref c48), .val (.ref b49), .unset, .unset, .unset, .unset]) rfl ?_
          show Steps p.tables e below (T50.setTop (mkF m 93 #[.val (.long q0), .second, .val (.long q1), .second, .val (.long q2), .second, .val (.int p3), .val (.int (0 : Int32)), .val (.int (((p3.toUInt32 >>> ((1 : Int32) &&& 31).toUInt32).toInt32) &&& (3 : Int32))), .val (.long ((q2 &&& (3 : Int64)) - (1 : Int64))), .second, .val (.long q2), .second, .val (.ref c48), .val (.ref b49), .unset, .unset, .unset, .unset] [])) _
          refine XS.aload X50.here hx rfl (hb hby at_93) rfl rfl ?_
          show Steps p.tables e below (T50.setTop (mkF m 95 #[.val (.long q0), .second, .val (.long q1), .second, .val (.long q2), .second, .val (.int p3), .val (.int (0 : Int32)), .val (.int (((p3.toUInt32 >>> ((1 : Int32) &&& 31).toUInt32).toInt32) &&& (3 : Int32))), .val (.long ((q2 &&& (3 : Int64)) - (1 : Int64))), .second, .val (.long q2), .second, .val (.ref c48), .val (.ref b49), .unset, .unset, .unset, .unset] [(.ref b49)])) _
          refine XS.lload X50.here hx rfl (hb hby at_95) rfl ?_
          show Steps p.tables e below (T50.setTop (mkF m 97 #[.val (.long q0), .second, .val (.long q1), .second, .val (.long q2), .second, .val (.int p3), .val (.int (0 : Int32)), .val (.int (((p3.toUInt32 >>> ((1 : Int32) &&& 31).toUInt32).toInt32) &&& (3 : Int32))), .val (.long ((q2 &&& (3 : Int64)) - (1 : Int64))), .second, .val (.long q2), .second, .val (.ref c48), .val (.ref b49), .unset, .unset, .unset, .unset] [(.long q2), (.ref b49)])) _
          refine st51.trans ?_
          show Steps p.tables e below (T51.setTop (mkF m 100 #[.val (.long q0), .second, .val (.long q1), .second, .val (.long q2), .second, .val (.int p3), .val (.int (0 : Int32)), .val (.int (((p3.toUInt32 >>> ((1 : Int32) &&& 31).toUInt32).toInt32) &&& (3 : Int32))), .val (.long ((q2 &&& (3 : Int64)) - (1 : Int64))), .second, .val (.long q2), .second, .val (.ref c48), .val (.ref b49), .unset, .unset, .unset, .unset] [(.int (alM q0 q1 q2))])) _
          refine XS.istore X51.here hx rfl (hb hby at_100) rfl (l' := #[.val (.long q0), .second, .val (.long q1), .second, .val (.long q2), .second, .val (.int p3), .val (.int (0 : Int32)), .val (.int (((p3.toUInt32 >>> ((1 : Int32) &&& 31).toUInt32).toInt32) &&& (3 : Int32))), .val (.long ((q2 &&& (3 : Int64)) - (1 : Int64))), .second, .val (.long q2), .second, .val (.ref c48), .val (.ref b49), .val (.int (alM q0 q1 q2)), .unset, .unset, .unset]) rfl ?_
          show Steps p.tables e below (T51.setTop (mkF m 102 #[.val (.long q0), .second, .val (.long q1), .second, .val (.long q2), .second, .val (.int p3), .val (.int (0 : Int32)), .val (.int (((p3.toUInt32 >>> ((1 : Int32) &&& 31).toUInt32).toInt32) &&& (3 : Int32))), .val (.long ((q2 &&& (3 : Int64)) - (1 : Int64))), .second, .val (.long q2), .second, .val (.ref c48), .val (.ref b49), .val (.int (alM q0 q1 q2)), .unset, .unset, .unset] [])) _
          refine XS.iload X51.here hx rfl (hb hby at_102) rfl ?_
          exact k
        refine own_go (A' := (T51.setTop (mkF m 113 #[.val (.long q0), .second, .val (.long q1), .second, .val (.long q2), .second, .val (.int p3), .val (.int (0 : Int32)), .val (.int (((p3.toUInt32 >>> ((1 : Int32) &&& 31).toUInt32).toInt32) &&& (3 : Int32))), .val (.long ((q2 &&& (3 : Int64)) - (1 : Int64))), .second, .val (.long q2), .second, .val (.ref c48), .val (.ref b49), .val (.int (alM q0 q1 q2)), .unset, .unset, .unset] []))) (fun t k => XS.ifYes X51.here hx rfl (pc0 := 104) (pc' := 113) rfl (hb hby at_104) rfl ((if0 _ _).trans (teq (by decide : (0 : Int32) = (0 : Int32))).1) (by decide) (by decide) k) ?_
        refine own_go (A' := (T51.setTop (mkF m 120 #[.val (.long q0), .second, .val (.long q1), .second, .val (.long q2), .second, .val (.int p3), .val (.int (0 : Int32)), .val (.int (((p3.toUInt32 >>> ((1 : Int32) &&& 31).toUInt32).toInt32) &&& (3 : Int32))), .val (.long ((q2 &&& (3 : Int64)) - (1 : Int64))), .second, .val (.long q2), .second, .val (.ref c48), .val (.ref b49), .val (.int (alM q0 q1 q2)), .val (.long q1), .second, .unset] [(.int (lcmpW q0 q1))]))) (fun t k => ?_) ?_
        · show Steps p.tables e below (T51.setTop (mkF m 113 #[.val (.long q0), .second, .val (.long q1), .second, .val (.long q2), .second, .val (.int p3), .val (.int (0 : Int32)), .val (.int (((p3.toUInt32 >>> ((1 : Int32) &&& 31).toUInt32).toInt32) &&& (3 : Int32))), .val (.long ((q2 &&& (3 : Int64)) - (1 : Int64))), .second, .val (.long q2), .second, .val (.ref c48), .val (.ref b49), .val (.int (alM q0 q1 q2)), .unset, .unset, .unset] [])) _
          refine XS.lloadN X51.here hx rfl (hb hby at_113) rfl ?_
          show Steps p.tables e below (T51.setTop (mkF m 114 #[.val (.long q0), .second, .val (.long q1), .second, .val (.long q2), .second, .val (.int p3), .val (.int (0 : Int32)), .val (.int (((p3.toUInt32 >>> ((1 : Int32) &&& 31).toUInt32).toInt32) &&& (3 : Int32))), .val (.long ((q2 &&& (3 : Int64)) - (1 : Int64))), .second, .val (.long q2), .second, .val (.ref c48), .val (.ref b49), .val (.int (alM q0 q1 q2)), .unset, .unset, .unset] [(.long q1)])) _
          refine XS.lstore X51.here hx rfl (hb hby at_114) rfl (l' := #[.val (.long q0), .second, .val (.long q1), .second, .val (.long q2), .second, .val (.int p3), .val (.int (0 : Int32)), .val (.int (((p3.toUInt32 >>> ((1 : Int32) &&& 31).toUInt32).toInt32) &&& (3 : Int32))), .val (.long ((q2 &&& (3 : Int64)) - (1 : Int64))), .second, .val (.long q2), .second, .val (.ref c48), .val (.ref b49), .val (.int (alM q0 q1 q2)), .val (.long q1), .second, .unset]) rfl ?_
          show Steps p.tables e below (T51.setTop (mkF m 116 #[.val (.long q0), .second, .val (.long q1), .second, .val (.long q2), .second, .val (.int p3), .val (.int (0 : Int32)), .val (.int (((p3.toUInt32 >>> ((1 : Int32) &&& 31).toUInt32).toInt32) &&& (3 : Int32))), .val (.long ((q2 &&& (3 : Int64)) - (1 : Int64))), .second, .val (.long q2), .second, .val (.ref c48), .val (.ref b49), .val (.int (alM q0 q1 q2)), .val (.long q1), .second, .unset] [])) _
          refine XS.lloadN X51.here hx rfl (hb hby at_116) rfl ?_
          show Steps p.tables e below (T51.setTop (mkF m 117 #[.val (.long q0), .second, .val (.long q1), .second, .val (.long q2), .second, .val (.int p3), .val (.int (0 : Int32)), .val (.int (((p3.toUInt32 >>> ((1 : Int32) &&& 31).toUInt32).toInt32) &&& (3 : Int32))), .val (.long ((q2 &&& (3 : Int64)) - (1 : Int64))), .second, .val (.long q2), .second, .val (.ref c48), .val (.ref b49), .val (.int (alM q0 q1 q2)), .val (.long q1), .second, .unset] [(.long q0)])) _
          refine XS.lload X51.here hx rfl (hb hby at_117) rfl ?_
          show Steps p.tables e below (T51.setTop (mkF m 119 #[.val (.long q0), .second, .val (.long q1), .second, .val (.long q2), .second, .val (.int p3), .val (.int (0 : Int32)), .val (.int (((p3.toUInt32 >>> ((1 : Int32) &&& 31).toUInt32).toInt32) &&& (3 : Int32))), .val (.long ((q2 &&& (3 : Int64)) - (1 : Int64))), .second, .val (.long q2), .second, .val (.ref c48), .val (.ref b49), .val (.int (alM q0 q1 q2)), .val (.long q1), .second, .unset] [(.long q1), (.long q0)])) _
          refine XS.lcmp X51.here hx rfl (hb hby at_119) rfl ?_
          exact k
        by_cases hc52 : (0 : Int32) < (lcmpW q0 q1)
        · -- hc52: yes
          refine own_go (A' := (T51.setTop (mkF m 144 #[.val (.long q0), .second, .val (.long q1), .second, .val (.long q2), .second, .val (.int p3), .val (.int (0 : Int32)), .val (.int (((p3.toUInt32 >>> ((1 : Int32) &&& 31).toUInt32).toInt32) &&& (3 : Int32))), .val (.long ((q2 &&& (3 : Int64)) - (1 : Int64))), .second, .val (.long q2), .second, .val (.ref c48), .val (.ref b49), .val (.int (alM q0 q1 q2)), .val (.long q1), .second, .unset] []))) (fun t k => XS.ifYes X51.here hx rfl (pc0 := 120) (pc' := 144) rfl (hb hby at_120) rfl ((if0 _ _).trans (tlt hc52).2.2.1) (by decide) (by decide) k) ?_
          refine own_go (A' := (T51.setTop (mkF m 151 #[.val (.long q0), .second, .val (.long q1), .second, .val (.long q2), .second, .val (.int p3), .val (.int (0 : Int32)), .val (.int (((p3.toUInt32 >>> ((1 : Int32) &&& 31).toUInt32).toInt32) &&& (3 : Int32))), .val (.long ((q2 &&& (3 : Int64)) - (1 : Int64))), .second, .val (.long q2), .second, .val (.ref c48), .val (.ref b49), .val (.int (alM q0 q1 q2)), .val (.long q1), .second, .val (.int (0 : Int32))] [(.int (0 : Int32)), (.int (alM q0 q1 q2))]))) (fun t k => ?_) ?_
          · show Steps p.tables e below (T51.setTop (mkF m 144 #[.val (.long q0), .second, .val (.long q1), .second, .val (.long q2), .second, .val (.int p3), .val (.int (0 : Int32)), .val (.int (((p3.toUInt32 >>> ((1 : Int32) &&& 31).toUInt32).toInt32) &&& (3 : Int32))), .val (.long ((q2 &&& (3 : Int64)) - (1 : Int64))), .second, .val (.long q2), .second, .val (.ref c48), .val (.ref b49), .val (.int (alM q0 q1 q2)), .val (.long q1), .second, .unset] [])) _
            refine XS.iconst X51.here hx rfl (hb hby at_144) ?_
            show Steps p.tables e below (T51.setTop (mkF m 145 #[.val (.long q0), .second, .val (.long q1), .second, .val (.long q2), .second, .val (.int p3), .val (.int (0 : Int32)), .val (.int (((p3.toUInt32 >>> ((1 : Int32) &&& 31).toUInt32).toInt32) &&& (3 : Int32))), .val (.long ((q2 &&& (3 : Int64)) - (1 : Int64))), .second, .val (.long q2), .second, .val (.ref c48), .val (.ref b49), .val (.int (alM q0 q1 q2)), .val (.long q1), .second, .unset] [(.int (0 : Int32))])) _
            refine XS.istore X51.here hx rfl (hb hby at_145) rfl (l' := #[.val (.long q0), .second, .val (.long q1), .second, .val (.long q2), .second, .val (.int p3), .val (.int (0 : Int32)), .val (.int (((p3.toUInt32 >>> ((1 : Int32) &&& 31).toUInt32).toInt32) &&& (3 : Int32))), .val (.long ((q2 &&& (3 : Int64)) - (1 : Int64))), .second, .val (.long q2), .second, .val (.ref c48), .val (.ref b49), .val (.int (alM q0 q1 q2)), .val (.long q1), .second, .val (.int (0 : Int32))]) rfl ?_
            show Steps p.tables e below (T51.setTop (mkF m 147 #[.val (.long q0), .second, .val (.long q1), .second, .val (.long q2), .second, .val (.int p3), .val (.int (0 : Int32)), .val (.int (((p3.toUInt32 >>> ((1 : Int32) &&& 31).toUInt32).toInt32) &&& (3 : Int32))), .val (.long ((q2 &&& (3 : Int64)) - (1 : Int64))), .second, .val (.long q2), .second, .val (.ref c48), .val (.ref b49), .val (.int (alM q0 q1 q2)), .val (.long q1), .second, .val (.int (0 : Int32))] [])) _
            refine XS.iload X51.here hx rfl (hb hby at_147) rfl ?_
            show Steps p.tables e below (T51.setTop (mkF m 149 #[.val (.long q0), .second, .val (.long q1), .second, .val (.long q2), .second, .val (.int p3), .val (.int (0 : Int32)), .val (.int (((p3.toUInt32 >>> ((1 : Int32) &&& 31).toUInt32).toInt32) &&& (3 : Int32))), .val (.long ((q2 &&& (3 : Int64)) - (1 : Int64))), .second, .val (.long q2), .second, .val (.ref c48), .val (.ref b49), .val (.int (alM q0 q1 q2)), .val (.long q1), .second, .val (.int (0 : Int32))] [(.int (alM q0 q1 q2))])) _
            refine XS.iload X51.here hx rfl (hb hby at_149) rfl ?_
            exact k
          refine own_go (A' := (T51.setTop (mkF m 154 #[.val (.long q0), .second, .val (.long q1), .second, .val (.long q2), .second, .val (.int p3), .val (.int (0 : Int32)), .val (.int (((p3.toUInt32 >>> ((1 : Int32) &&& 31).toUInt32).toInt32) &&& (3 : Int32))), .val (.long ((q2 &&& (3 : Int64)) - (1 : Int64))), .second, .val (.long q2), .second, .val (.ref c48), .val (.ref b49), .val (.int (alM q0 q1 q2)), .val (.long q1), .second, .val (.int (0 : Int32))] []))) (fun t k => XS.icmpNo X51.here hx rfl (hb hby at_151) rfl (teq (own_A _ hc52)).2 k) ?_
          refine own_go (A' := (T51.setTop (mkF m 159 #[.val (.long q0), .second, .val (.long q1), .second, .val (.long q2), .second, .val (.int p3), .val (.int (0 : Int32)), .val (.int (((p3.toUInt32 >>> ((1 : Int32) &&& 31).toUInt32).toInt32) &&& (3 : Int32))), .val (.long ((q2 &&& (3 : Int64)) - (1 : Int64))), .second, .val (.long q2), .second, .val (.ref c48), .val (.ref b49), .val (.int (alM q0 q1 q2)), .val (.long q1), .second, .val (.int (0 : Int32))] [(.int (1 : Int32))]))) (fun t k => ?_) ?_
          · show Steps p.tables e below (T51.setTop (mkF m 154 #[.val (.long q0), .second, .val (.long q1), .second, .val (.long q2), .second, .val (.int p3), .val (.int (0 : Int32)), .val (.int (((p3.toUInt32 >>> ((1 : Int32) &&& 31).toUInt32).toInt32) &&& (3 : Int32))), .val (.long ((q2 &&& (3 : Int64)) - (1 : Int64))), .second, .val (.long q2), .second, .val (.ref c48), .val (.ref b49), .val (.int (alM q0 q1 q2)), .val (.long q1), .second, .val (.int (0 : Int32))] [])) _
            refine XS.iconst X51.here hx rfl (hb hby at_154) ?_
            show Steps p.tables e below (T51.setTop (mkF m 155 #[.val (.long q0), .second, .val (.long q1), .second, .val (.long q2), .second, .val (.int p3), .val (.int (0 : Int32)), .val (.int (((p3.toUInt32 >>> ((1 : Int32) &&& 31).toUInt32).toInt32) &&& (3 : Int32))), .val (.long ((q2 &&& (3 : Int64)) - (1 : Int64))), .second, .val (.long q2), .second, .val (.ref c48), .val (.ref b49), .val (.int (alM q0 q1 q2)), .val (.long q1), .second, .val (.int (0 : Int32))] [(.int (1 : Int32))])) _
            refine XS.goto X51.here hx rfl (pc0 := 155) (pc' := 159) rfl (hb hby at_155) (by decide) (by decide) ?_
            exact k
          obtain ⟨fs, hr, hrun, hended, hW, hsame⟩ := X51.leave (v := some (.int (1 : Int32))) (fun h => by rw [Bd.returns] at h; cases h) hlk
          refine ⟨_, _, ?_, hrun, hended, _, _, rfl, ?_, ⟨_, rfl⟩, hW, hsame.mono (by decide) (by decide)⟩
          · show Steps p.tables e below (T51.setTop (mkF m 159 #[.val (.long q0), .second, .val (.long q1), .second, .val (.long q2), .second, .val (.int p3), .val (.int (0 : Int32)), .val (.int (((p3.toUInt32 >>> ((1 : Int32) &&& 31).toUInt32).toInt32) &&& (3 : Int32))), .val (.long ((q2 &&& (3 : Int64)) - (1 : Int64))), .second, .val (.long q2), .second, .val (.ref c48), .val (.ref b49), .val (.int (alM q0 q1 q2)), .val (.long q1), .second, .val (.int (0 : Int32))] [(.int (1 : Int32))])) _
            exact retN X51 hx (t := .boolean) Bd.returns (by simp) (hb hby at_159) hr
          · show Q0 Z q0 q1 q2 p3 wC clC h0 n0 _ T51.heap _
            exact ⟨rfl, N51⟩
        · -- hc52: no
          refine own_go (A' := (T51.setTop (mkF m 123 #[.val (.long q0), .second, .val (.long q1), .second, .val (.long q2), .second, .val (.int p3), .val (.int (0 : Int32)), .val (.int (((p3.toUInt32 >>> ((1 : Int32) &&& 31).toUInt32).toInt32) &&& (3 : Int32))), .val (.long ((q2 &&& (3 : Int64)) - (1 : Int64))), .second, .val (.long q2), .second, .val (.ref c48), .val (.ref b49), .val (.int (alM q0 q1 q2)), .val (.long q1), .second, .unset] []))) (fun t k => XS.ifNo X51.here hx rfl (hb hby at_120) rfl ((if0 _ _).trans (flt hc52).2.2.1) k) ?_
          obtain ⟨_, _, ⟨T53, L53, k53, n53⟩, -, X53, ⟨Lc53, hQ53, l53, y53, z53⟩, st53⟩ := Jvm.LawKit.callS X51 hx (y := (⟨"java/lang/Math", "max", "(JJ)J"⟩ : MethodName)) hown (mvT hZ (hw _ (List.mem_of_getElem? (i := 47) rfl))) (mvT hZ (hw _ (List.mem_of_getElem? (i := 48) rfl))) (mvT hZ (hw _ (List.mem_of_getElem? (i := 49) rfl))) (mvT hZ (hw _ (List.mem_of_getElem? (i := 50) rfl))) (by decide) (backOf (W := 0) (rm8 l Z a0 hw [] q2 q0  T50.heap n0 (Nat.le_trans Z0 K50.1) ) hZ (hw _ (List.mem_of_getElem? (i := 50) rfl)) (hw _ (List.mem_of_getElem? (i := 49) rfl)) (by decide) (by decide)) (g := (mkF m 126 #[.val (.long q0), .second, .val (.long q1), .second, .val (.long q2), .second, .val (.int p3), .val (.int (0 : Int32)), .val (.int (((p3.toUInt32 >>> ((1 : Int32) &&& 31).toUInt32).toInt32) &&& (3 : Int32))), .val (.long ((q2 &&& (3 : Int64)) - (1 : Int64))), .second, .val (.long q2), .second, .val (.ref c48), .val (.ref b49), .val (.int (alM q0 q1 q2)), .val (.long q1), .second, .unset] [(.long q0), (.long q2)])) rfl (by rw [hml]; rfl) (argsL := [(.long q2), (.long q0)]) (rest := []) (lenOf pd_6 rfl) rfl (by show 2 * 0 + _ ≤ _; exact Nat.le_of_eq rfl) (hb hby at_126) (fun _ _ => ⟨rfl, e51, (by decide : 2 + 0 ≤ _), (by decide : 3 + 0 ≤ _)⟩)
          dsimp only [Pt.U, Pt.locs, Pt.cells, Pt.slots] at X53 l53 y53 z53 st53 hQ53
          subst l53 y53 z53
          obtain ⟨rfl, N53q, e53⟩ := hQ53
          have N53 := Fr.app N51 N53q
          obtain ⟨_, _, ⟨T54, L54, k54, n54⟩, -, X54, ⟨Lc54, hQ54, l54, y54, z54⟩, st54⟩ := Jvm.LawKit.callS X53 hx (y := (⟨"java/lang/Math", "min", "(JJ)J"⟩ : MethodName)) hown (mvT hZ (hw _ (List.mem_of_getElem? (i := 51) rfl))) (mvT hZ (hw _ (List.mem_of_getElem? (i := 52) rfl))) (mvT hZ (hw _ (List.mem_of_getElem? (i := 49) rfl))) (mvT hZ (hw _ (List.mem_of_getElem? (i := 53) rfl))) (by decide) (backOf (W := 0) (rm9 l Z a0 hw [] (mxL q2 q0) q1  T50.heap n0 (Nat.le_trans Z0 K50.1) ) hZ (hw _ (List.mem_of_getElem? (i := 53) rfl)) (hw _ (List.mem_of_getElem? (i := 49) rfl)) (by decide) (by decide)) (g := (mkF m 131 #[.val (.long q0), .second, .val (.long q1), .second, .val (.long q2), .second, .val (.int p3), .val (.int (0 : Int32)), .val (.int (((p3.toUInt32 >>> ((1 : Int32) &&& 31).toUInt32).toInt32) &&& (3 : Int32))), .val (.long ((q2 &&& (3 : Int64)) - (1 : Int64))), .second, .val (.long q2), .second, .val (.ref c48), .val (.ref b49), .val (.int (alM q0 q1 q2)), .val (.long q1), .second, .unset] [(.long q1), (.long (mxL q2 q0))])) rfl (by rw [hml]; rfl) (argsL := [(.long (mxL q2 q0)), (.long q1)]) (rest := []) (lenOf pd_6 rfl) rfl (by show 2 * 0 + _ ≤ _; exact Nat.le_of_eq rfl) (hb hby at_131) (fun _ _ => ⟨rfl, e53, (by decide : 2 + 0 ≤ _), (by decide : 3 + 0 ≤ _)⟩)
          dsimp only [Pt.U, Pt.locs, Pt.cells, Pt.slots] at X54 l54 y54 z54 st54 hQ54
          subst l54 y54 z54
          obtain ⟨rfl, N54q, e54⟩ := hQ54
          have N54 := Fr.app N53 N54q
          refine own_go (A' := (T54.setTop (mkF m 137 #[.val (.long q0), .second, .val (.long q1), .second, .val (.long q2), .second, .val (.int p3), .val (.int (0 : Int32)), .val (.int (((p3.toUInt32 >>> ((1 : Int32) &&& 31).toUInt32).toInt32) &&& (3 : Int32))), .val (.long ((q2 &&& (3 : Int64)) - (1 : Int64))), .second, .val (.long q2), .second, .val (.ref c48), .val (.ref b49), .val (.int (alM q0 q1 q2)), .val (.long q1), .second, .unset] [(.int (lcmpW (mnL (mxL q2 q0) q1) q2))]))) (fun t k => ?_) ?_
          · show Steps p.tables e below (T51.setTop (mkF m 123 #[.val (.long q0), .second, .val (.long q1), .second, .val (.long q2), .second, .val (.int p3), .val (.int (0 : Int32)), .val (.int (((p3.toUInt32 >>> ((1 : Int32) &&& 31).toUInt32).toInt32) &&& (3 : Int32))), .val (.long ((q2 &&& (3 : Int64)) - (1 : Int64))), .second, .val (.long q2), .second, .val (.ref c48), .val (.ref b49), .val (.int (alM q0 q1 q2)), .val (.long q1), .second, .unset] [])) _
            refine XS.lload X51.here hx rfl (hb hby at_123) rfl ?_
            show Steps p.tables e below (T51.setTop (mkF m 125 #[.val (.long q0), .second, .val (.long q1), .second, .val (.long q2), .second, .val (.int p3), .val (.int (0 : Int32)), .val (.int (((p3.toUInt32 >>> ((1 : Int32) &&& 31).toUInt32).toInt32) &&& (3 : Int32))), .val (.long ((q2 &&& (3 : Int64)) - (1 : Int64))), .second, .val (.long q2), .second, .val (.ref c48), .val (.ref b49), .val (.int (alM q0 q1 q2)), .val (.long q1), .second, .unset] [(.long q2)])) _
            refine XS.lloadN X51.here hx rfl (hb hby at_125) rfl ?_
            show Steps p.tables e below (T51.setTop (mkF m 126 #[.val (.long q0), .second, .val (.long q1), .second, .val (.long q2), .second, .val (.int p3), .val (.int (0 : Int32)), .val (.int (((p3.toUInt32 >>> ((1 : Int32) &&& 31).toUInt32).toInt32) &&& (3 : Int32))), .val (.long ((q2 &&& (3 : Int64)) - (1 : Int64))), .second, .val (.long q2), .second, .val (.ref c48), .val (.ref b49), .val (.int (alM q0 q1 q2)), .val (.long q1), .second, .unset] [(.long q0), (.long q2)])) _
            refine st53 _ ?_
            show Steps p.tables e below (T53.setTop (mkF m 129 #[.val (.long q0), .second, .val (.long q1), .second, .val (.long q2), .second, .val (.int p3), .val (.int (0 : Int32)), .val (.int (((p3.toUInt32 >>> ((1 : Int32) &&& 31).toUInt32).toInt32) &&& (3 : Int32))), .val (.long ((q2 &&& (3 : Int64)) - (1 : Int64))), .second, .val (.long q2), .second, .val (.ref c48), .val (.ref b49), .val (.int (alM q0 q1 q2)), .val (.long q1), .second, .unset] [(.long (mxL q2 q0))])) _
            refine XS.lload X53.here hx rfl (hb hby at_129) rfl ?_
            show Steps p.tables e below (T53.setTop (mkF m 131 #[.val (.long q0), .second, .val (.long q1), .second, .val (.long q2), .second, .val (.int p3), .val (.int (0 : Int32)), .val (.int (((p3.toUInt32 >>> ((1 : Int32) &&& 31).toUInt32).toInt32) &&& (3 : Int32))), .val (.long ((q2 &&& (3 : Int64)) - (1 : Int64))), .second, .val (.long q2), .second, .val (.ref c48), .val (.ref b49), .val (.int (alM q0 q1 q2)), .val (.long q1), .second, .unset] [(.long q1), (.long (mxL q2 q0))])) _
            refine st54 _ ?_
            show Steps p.tables e below (T54.setTop (mkF m 134 #[.val (.long q0), .second, .val (.long q1), .second, .val (.long q2), .second, .val (.int p3), .val (.int (0 : Int32)), .val (.int (((p3.toUInt32 >>> ((1 : Int32) &&& 31).toUInt32).toInt32) &&& (3 : Int32))), .val (.long ((q2 &&& (3 : Int64)) - (1 : Int64))), .second, .val (.long q2), .second, .val (.ref c48), .val (.ref b49), .val (.int (alM q0 q1 q2)), .val (.long q1), .second, .unset] [(.long (mnL (mxL q2 q0) q1))])) _
            refine XS.lload X54.here hx rfl (hb hby at_134) rfl ?_
            show Steps p.tables e below (T54.setTop (mkF m 136 #[.val (.long q0), .second, .val (.long q1), .second, .val (.long q2), .second, .val (.int p3), .val (.int (0 : Int32)), .val (.int (((p3.toUInt32 >>> ((1 : Int32) &&& 31).toUInt32).toInt32) &&& (3 : Int32))), .val (.long ((q2 &&& (3 : Int64)) - (1 : Int64))), .second, .val (.long q2), .second, .val (.ref c48), .val (.ref b49), .val (.int (alM q0 q1 q2)), .val (.long q1), .second, .unset] [(.long q2), (.long (mnL (mxL q2 q0) q1))])) _
            refine XS.lcmp X54.here hx rfl (hb hby at_136) rfl ?_
            exact k
          by_cases hc55 : (lcmpW (mnL (mxL q2 q0) q1) q2) = (0 : Int32)
          · -- hc55: yes
            refine own_go (A' := (T54.setTop (mkF m 140 #[.val (.long q0), .second, .val (.long q1), .second, .val (.long q2), .second, .val (.int p3), .val (.int (0 : Int32)), .val (.int (((p3.toUInt32 >>> ((1 : Int32) &&& 31).toUInt32).toInt32) &&& (3 : Int32))), .val (.long ((q2 &&& (3 : Int64)) - (1 : Int64))), .second, .val (.long q2), .second, .val (.ref c48), .val (.ref b49), .val (.int (alM q0 q1 q2)), .val (.long q1), .second, .unset] []))) (fun t k => XS.ifNo X54.here hx rfl (hb hby at_137) rfl ((if0 _ _).trans (teq hc55).2) k) ?_
            refine own_go (A' := (T54.setTop (mkF m 151 #[.val (.long q0), .second, .val (.long q1), .second, .val (.long q2), .second, .val (.int p3), .val (.int (0 : Int32)), .val (.int (((p3.toUInt32 >>> ((1 : Int32) &&& 31).toUInt32).toInt32) &&& (3 : Int32))), .val (.long ((q2 &&& (3 : Int64)) - (1 : Int64))), .second, .val (.long q2), .second, .val (.ref c48), .val (.ref b49), .val (.int (alM q0 q1 q2)), .val (.long q1), .second, .val (.int (1 : Int32))] [(.int (1 : Int32)), (.int (alM q0 q1 q2))]))) (fun t k => ?_) ?_
            · show Steps p.tables e below (T54.setTop (mkF m 140 #[.val (.long q0), .second, .val (.long q1), .second, .val (.long q2), .second, .val (.int p3), .val (.int (0 : Int32)), .val (.int (((p3.toUInt32 >>> ((1 : Int32) &&& 31).toUInt32).toInt32) &&& (3 : Int32))), .val (.long ((q2 &&& (3 : Int64)) - (1 : Int64))), .second, .val (.long q2), .second, .val (.ref c48), .val (.ref b49), .val (.int (alM q0 q1 q2)), .val (.long q1), .second, .unset] [])) _
              refine XS.iconst X54.here hx rfl (hb hby at_140) ?_
              show Steps p.tables e below (T54.setTop (mkF m 141 #[.val (.long q0), .second, .val (.long q1), .second, .val (.long q2), .second, .val (.int p3), .val (.int (0 : Int32)), .val (.int (((p3.toUInt32 >>> ((1 : Int32) &&& 31).toUInt32).toInt32) &&& (3 : Int32))), .val (.long ((q2 &&& (3 : Int64)) - (1 : Int64))), .second, .val (.long q2), .second, .val (.ref c48), .val (.ref b49), .val (.int (alM q0 q1 q2)), .val (.long q1), .second, .unset] [(.int (1 : Int32))])) _
              refine XS.goto X54.here hx rfl (pc0 := 141) (pc' := 145) rfl (hb hby at_141) (by decide) (by decide) ?_
              show Steps p.tables e below (T54.setTop (mkF m 145 #[.val (.long q0), .second, .val (.long q1), .second, .val (.long q2), .second, .val (.int p3), .val (.int (0 : Int32)), .val (.int (((p3.toUInt32 >>> ((1 : Int32) &&& 31).toUInt32).toInt32) &&& (3 : Int32))), .val (.long ((q2 &&& (3 : Int64)) - (1 : Int64))), .second, .val (.long q2), .second, .val (.ref c48), .val (.ref b49), .val (.int (alM q0 q1 q2)), .val (.long q1), .second, .unset] [(.int (1 : Int32))])) _
              refine XS.istore X54.here hx rfl (hb hby at_145) rfl (l' := #[.val (.long q0), .second, .val (.long q1), .second, .val (.long q2), .second, .val (.int p3), .val (.int (0 : Int32)), .val (.int (((p3.toUInt32 >>> ((1 : Int32) &&& 31).toUInt32).toInt32) &&& (3 : Int32))), .val (.long ((q2 &&& (3 : Int64)) - (1 : Int64))), .second, .val (.long q2), .second, .val (.ref c48), .val (.ref b49), .val (.int (alM q0 q1 q2)), .val (.long q1), .second, .val (.int (1 : Int32))]) rfl ?_
              show Steps p.tables e below (T54.setTop (mkF m 147 #[.val (.long q0), .second, .val (.long q1), .second, .val (.long q2), .second, .val (.int p3), .val (.int (0 : Int32)), .val (.int (((p3.toUInt32 >>> ((1 : Int32) &&& 31).toUInt32).toInt32) &&& (3 : Int32))), .val (.long ((q2 &&& (3 : Int64)) - (1 : Int64))), .second, .val (.long q2), .second, .val (.ref c48), .val (.ref b49), .val (.int (alM q0 q1 q2)), .val (.long q1), .second, .val (.int (1 : Int32))] [])) _
              refine XS.iload X54.here hx rfl (hb hby at_147) rfl ?_
              show Steps p.tables e below (T54.setTop (mkF m 149 #[.val (.long q0), .second, .val (.long q1), .second, .val (.long q2), .second, .val (.int p3), .val (.int (0 : Int32)), .val (.int (((p3.toUInt32 >>> ((1 : Int32) &&& 31).toUInt32).toInt32) &&& (3 : Int32))), .val (.long ((q2 &&& (3 : Int64)) - (1 : Int64))), .second, .val (.long q2), .second, .val (.ref c48), .val (.ref b49), .val (.int (alM q0 q1 q2)), .val (.long q1), .second, .val (.int (1 : Int32))] [(.int (alM q0 q1 q2))])) _
              refine XS.iload X54.here hx rfl (hb hby at_149) rfl ?_
              exact k
            refine own_go (A' := (T54.setTop (mkF m 154 #[.val (.long q0), .second, .val (.long q1), .second, .val (.long q2), .second, .val (.int p3), .val (.int (0 : Int32)), .val (.int (((p3.toUInt32 >>> ((1 : Int32) &&& 31).toUInt32).toInt32) &&& (3 : Int32))), .val (.long ((q2 &&& (3 : Int64)) - (1 : Int64))), .second, .val (.long q2), .second, .val (.ref c48), .val (.ref b49), .val (.int (alM q0 q1 q2)), .val (.long q1), .second, .val (.int (1 : Int32))] []))) (fun t k => XS.icmpNo X54.here hx rfl (hb hby at_151) rfl (teq (own_B hc52 hc55)).2 k) ?_
            refine own_go (A' := (T54.setTop (mkF m 159 #[.val (.long q0), .second, .val (.long q1), .second, .val (.long q2), .second, .val (.int p3), .val (.int (0 : Int32)), .val (.int (((p3.toUInt32 >>> ((1 : Int32) &&& 31).toUInt32).toInt32) &&& (3 : Int32))), .val (.long ((q2 &&& (3 : Int64)) - (1 : Int64))), .second, .val (.long q2), .second, .val (.ref c48), .val (.ref b49), .val (.int (alM q0 q1 q2)), .val (.long q1), .second, .val (.int (1 : Int32))] [(.int (1 : Int32))]))) (fun t k => ?_) ?_
            · show Steps p.tables e below (T54.setTop (mkF m 154 #[.val (.long q0), .second, .val (.long q1), .second, .val (.long q2), .second, .val (.int p3), .val (.int (0 : Int32)), .val (.int (((p3.toUInt32 >>> ((1 : Int32) &&& 31).toUInt32).toInt32) &&& (3 : Int32))), .val (.long ((q2 &&& (3 : Int64)) - (1 : Int64))), .second, .val (.long q2), .second, .val (.ref c48), .val (.ref b49), .val (.int (alM q0 q1 q2)), .val (.long q1), .second, .val (.int (1 : Int32))] [])) _
              refine XS.iconst X54.here hx rfl (hb hby at_154) ?_
              show Steps p.tables e below (T54.setTop (mkF m 155 #[.val (.long q0), .second, .val (.long q1), .second, .val (.long q2), .second, .val (.int p3), .val (.int (0 : Int32)), .val (.int (((p3.toUInt32 >>> ((1 : Int32) &&& 31).toUInt32).toInt32) &&& (3 : Int32))), .val (.long ((q2 &&& (3 : Int64)) - (1 : Int64))), .second, .val (.long q2), .second, .val (.ref c48), .val (.ref b49), .val (.int (alM q0 q1 q2)), .val (.long q1), .second, .val (.int (1 : Int32))] [(.int (1 : Int32))])) _
              refine XS.goto X54.here hx rfl (pc0 := 155) (pc' := 159) rfl (hb hby at_155) (by decide) (by decide) ?_
              exact k
            obtain ⟨fs, hr, hrun, hended, hW, hsame⟩ := X54.leave (v := some (.int (1 : Int32))) (fun h => by rw [Bd.returns] at h; cases h) hlk
            refine ⟨_, _, ?_, hrun, hended, _, _, rfl, ?_, ⟨_, rfl⟩, hW, hsame.mono (by decide) (by decide)⟩
            · show Steps p.tables e below (T54.setTop (mkF m 159 #[.val (.long q0), .second, .val (.long q1), .second, .val (.long q2), .second, .val (.int p3), .val (.int (0 : Int32)), .val (.int (((p3.toUInt32 >>> ((1 : Int32) &&& 31).toUInt32).toInt32) &&& (3 : Int32))), .val (.long ((q2 &&& (3 : Int64)) - (1 : Int64))), .second, .val (.long q2), .second, .val (.ref c48), .val (.ref b49), .val (.int (alM q0 q1 q2)), .val (.long q1), .second, .val (.int (1 : Int32))] [(.int (1 : Int32))])) _
              exact retN X54 hx (t := .boolean) Bd.returns (by simp) (hb hby at_159) hr
            · show Q0 Z q0 q1 q2 p3 wC clC h0 n0 _ T54.heap _
              exact ⟨rfl, N54⟩
          · -- hc55: no
            refine own_go (A' := (T54.setTop (mkF m 144 #[.val (.long q0), .second, .val (.long q1), .second, .val (.long q2), .second, .val (.int p3), .val (.int (0 : Int32)), .val (.int (((p3.toUInt32 >>> ((1 : Int32) &&& 31).toUInt32).toInt32) &&& (3 : Int32))), .val (.long ((q2 &&& (3 : Int64)) - (1 : Int64))), .second, .val (.long q2), .second, .val (.ref c48), .val (.ref b49), .val (.int (alM q0 q1 q2)), .val (.long q1), .second, .unset] []))) (fun t k => XS.ifYes X54.here hx rfl (pc0 := 137) (pc' := 144) rfl (hb hby at_137) rfl ((if0 _ _).trans (feq hc55).2) (by decide) (by decide) k) ?_
            refine own_go (A' := (T54.setTop (mkF m 151 #[.val (.long q0), .second, .val (.long q1), .second, .val (.long q2), .second, .val (.int p3), .val (.int (0 : Int32)), .val (.int (((p3.toUInt32 >>> ((1 : Int32) &&& 31).toUInt32).toInt32) &&& (3 : Int32))), .val (.long ((q2 &&& (3 : Int64)) - (1 : Int64))), .second, .val (.long q2), .second, .val (.ref c48), .val (.ref b49), .val (.int (alM q0 q1 q2)), .val (.long q1), .second, .val (.int (0 : Int32))] [(.int (0 : Int32)), (.int (alM q0 q1 q2))]))) (fun t k => ?_) ?_
            · show Steps p.tables e below (T54.setTop (mkF m 144 #[.val (.long q0), .second, .val (.long q1), .second, .val (.long q2), .second, .val (.int p3), .val (.int (0 : Int32)), .val (.int (((p3.toUInt32 >>> ((1 : Int32) &&& 31).toUInt32).toInt32) &&& (3 : Int32))), .val (.long ((q2 &&& (3 : Int64)) - (1 : Int64))), .second, .val (.long q2), .second, .val (.ref c48), .val (.ref b49), .val (.int (alM q0 q1 q2)), .val (.long q1), .second, .unset] [])) _
              refine XS.iconst X54.here hx rfl (hb hby at_144) ?_
              show Steps p.tables e below (T54.setTop (mkF m 145 #[.val (.long q0), .second, .val (.long q1), .second, .val (.long q2), .second, .val (.int p3), .val (.int (0 : Int32)), .val (.int (((p3.toUInt32 >>> ((1 : Int32) &&& 31).toUInt32).toInt32) &&& (3 : Int32))), .val (.long ((q2 &&& (3 : Int64)) - (1 : Int64))), .second, .val (.long q2), .second, .val (.ref c48), .val (.ref b49), .val (.int (alM q0 q1 q2)), .val (.long q1), .second, .unset] [(.int (0 : Int32))])) _
              refine XS.istore X54.here hx rfl (hb hby at_145) rfl (l' := #[.val (.long q0), .second, .val (.long q1), .second, .val (.long q2), .second, .val (.int p3), .val (.int (0 : Int32)), .val (.int (((p3.toUInt32 >>> ((1 : Int32) &&& 31).toUInt32).toInt32) &&& (3 : Int32))), .val (.long ((q2 &&& (3 : Int64)) - (1 : Int64))), .second, .val (.long q2), .second, .val (.ref c48), .val (.ref b49), .val (.int (alM q0 q1 q2)), .val (.long q1), .second, .val (.int (0 : Int32))]) rfl ?_
              show Steps p.tables e below (T54.setTop (mkF m 147 #[.val (.long q0), .second, .val (.long q1), .second, .val (.long q2), .second, .val (.int p3), .val (.int (0 : Int32)), .val (.int (((p3.toUInt32 >>> ((1 : Int32) &&& 31).toUInt32).toInt32) &&& (3 : Int32))), .val (.long ((q2 &&& (3 : Int64)) - (1 : Int64))), .second, .val (.long q2), .second, .val (.ref c48), .val (.ref b49), .val (.int (alM q0 q1 q2)), .val (.long q1), .second, .val (.int (0 : Int32))] [])) _
              refine XS.iload X54.here hx rfl (hb hby at_147) rfl ?_
              show Steps p.tables e below (T54.setTop (mkF m 149 #[.val (.long q0), .second, .val (.long q1), .second, .val (.long q2), .second, .val (.int p3), .val (.int (0 : Int32)), .val (.int (((p3.toUInt32 >>> ((1 : Int32) &&& 31).toUInt32).toInt32) &&& (3 : Int32))), .val (.long ((q2 &&& (3 : Int64)) - (1 : Int64))), .second, .val (.long q2), .second, .val (.ref c48), .val (.ref b49), .val (.int (alM q0 q1 q2)), .val (.long q1), .second, .val (.int (0 : Int32))] [(.int (alM q0 q1 q2))])) _
              refine XS.iload X54.here hx rfl (hb hby at_149) rfl ?_
              exact k
            refine own_go (A' := (T54.setTop (mkF m 154 #[.val (.long q0), .second, .val (.long q1), .second, .val (.long q2), .second, .val (.int p3), .val (.int (0 : Int32)), .val (.int (((p3.toUInt32 >>> ((1 : Int32) &&& 31).toUInt32).toInt32) &&& (3 : Int32))), .val (.long ((q2 &&& (3 : Int64)) - (1 : Int64))), .second, .val (.long q2), .second, .val (.ref c48), .val (.ref b49), .val (.int (alM q0 q1 q2)), .val (.long q1), .second, .val (.int (0 : Int32))] []))) (fun t k => XS.icmpNo X54.here hx rfl (hb hby at_151) rfl (teq (own_C hc52 hc55)).2 k) ?_
            refine own_go (A' := (T54.setTop (mkF m 159 #[.val (.long q0), .second, .val (.long q1), .second, .val (.long q2), .second, .val (.int p3), .val (.int (0 : Int32)), .val (.int (((p3.toUInt32 >>> ((1 : Int32) &&& 31).toUInt32).toInt32) &&& (3 : Int32))), .val (.long ((q2 &&& (3 : Int64)) - (1 : Int64))), .second, .val (.long q2), .second, .val (.ref c48), .val (.ref b49), .val (.int (alM q0 q1 q2)), .val (.long q1), .second, .val (.int (0 : Int32))] [(.int (1 : Int32))]))) (fun t k => ?_) ?_
            · show Steps p.tables e below (T54.setTop (mkF m 154 #[.val (.long q0), .second, .val (.long q1), .second, .val (.long q2), .second, .val (.int p3), .val (.int (0 : Int32)), .val (.int (((p3.toUInt32 >>> ((1 : Int32) &&& 31).toUInt32).toInt32) &&& (3 : Int32))), .val (.long ((q2 &&& (3 : Int64)) - (1 : Int64))), .second, .val (.long q2), .second, .val (.ref c48), .val (.ref b49), .val (.int (alM q0 q1 q2)), .val (.long q1), .second, .val (.int (0 : Int32))] [])) _
              refine XS.iconst X54.here hx rfl (hb hby at_154) ?_
              show Steps p.tables e below (T54.setTop (mkF m 155 #[.val (.long q0), .second, .val (.long q1), .second, .val (.long q2), .second, .val (.int p3), .val (.int (0 : Int32)), .val (.int (((p3.toUInt32 >>> ((1 : Int32) &&& 31).toUInt32).toInt32) &&& (3 : Int32))), .val (.long ((q2 &&& (3 : Int64)) - (1 : Int64))), .second, .val (.long q2), .second, .val (.ref c48), .val (.ref b49), .val (.int (alM q0 q1 q2)), .val (.long q1), .second, .val (.int (0 : Int32))] [(.int (1 : Int32))])) _
              refine XS.goto X54.here hx rfl (pc0 := 155) (pc' := 159) rfl (hb hby at_155) (by decide) (by decide) ?_
              exact k
            obtain ⟨fs, hr, hrun, hended, hW, hsame⟩ := X54.leave (v := some (.int (1 : Int32))) (fun h => by rw [Bd.returns] at h; cases h) hlk
            refine ⟨_, _, ?_, hrun, hended, _, _, rfl, ?_, ⟨_, rfl⟩, hW, hsame.mono (by decide) (by decide)⟩
            · show Steps p.tables e below (T54.setTop (mkF m 159 #[.val (.long q0), .second, .val (.long q1), .second, .val (.long q2), .second, .val (.int p3), .val (.int (0 : Int32)), .val (.int (((p3.toUInt32 >>> ((1 : Int32) &&& 31).toUInt32).toInt32) &&& (3 : Int32))), .val (.long ((q2 &&& (3 : Int64)) - (1 : Int64))), .second, .val (.long q2), .second, .val (.ref c48), .val (.ref b49), .val (.int (alM q0 q1 q2)), .val (.long q1), .second, .val (.int (0 : Int32))] [(.int (1 : Int32))])) _
              exact retN X54 hx (t := .boolean) Bd.returns (by simp) (hb hby at_159) hr
            · show Q0 Z q0 q1 q2 p3 wC clC h0 n0 _ T54.heap _
              exact ⟨rfl, N54⟩
  · -- hc29: no
    refine own_go (A' := (s₁.setTop (mkF m 7 #[.val (.long q0), .second, .val (.long q1), .second, .val (.long q2), .second, .val (.int p3), .unset, .unset, .unset, .unset, .unset, .unset, .unset, .unset, .unset, .unset, .unset, .unset] []))) (fun t k => XS.ifNo X0.here hx rfl (hb hby at_4) rfl ((if0 _ _).trans (feq hc29).1) k) ?_
    refine own_go (A' := (s₁.setTop (mkF m 35 #[.val (.long q0), .second, .val (.long q1), .second, .val (.long q2), .second, .val (.int p3), .val (.int (1 : Int32)), .val (.int (((p3.toUInt32 >>> ((1 : Int32) &&& 31).toUInt32).toInt32) &&& (3 : Int32))), .val (.long ((q2 &&& (3 : Int64)) - (1 : Int64))), .second, .unset, .unset, .unset, .unset, .unset, .unset, .unset, .unset] [(.int (1 : Int32)), (.int (((p3.toUInt32 >>> ((1 : Int32) &&& 31).toUInt32).toInt32) &&& (3 : Int32)))]))) (fun t k => ?_) ?_
    · show Steps p.tables e below (s₁.setTop (mkF m 7 #[.val (.long q0), .second, .val (.long q1), .second, .val (.long q2), .second, .val (.int p3), .unset, .unset, .unset, .unset, .unset, .unset, .unset, .unset, .unset, .unset, .unset, .unset] [])) _
      refine XS.iconst X0.here hx rfl (hb hby at_7) ?_
      show Steps p.tables e below (s₁.setTop (mkF m 8 #[.val (.long q0), .second, .val (.long q1), .second, .val (.long q2), .second, .val (.int p3), .unset, .unset, .unset, .unset, .unset, .unset, .unset, .unset, .unset, .unset, .unset, .unset] [(.int (1 : Int32))])) _
      refine XS.goto X0.here hx rfl (pc0 := 8) (pc' := 12) rfl (hb hby at_8) (by decide) (by decide) ?_
      show Steps p.tables e below (s₁.setTop (mkF m 12 #[.val (.long q0), .second, .val (.long q1), .second, .val (.long q2), .second, .val (.int p3), .unset, .unset, .unset, .unset, .unset, .unset, .unset, .unset, .unset, .unset, .unset, .unset] [(.int (1 : Int32))])) _
      refine XS.istore X0.here hx rfl (hb hby at_12) rfl (l' := #[.val (.long q0), .second, .val (.long q1), .second, .val (.long q2), .second, .val (.int p3), .val (.int (1 : Int32)), .unset, .unset, .unset, .unset, .unset, .unset, .unset, .unset, .unset, .unset, .unset]) rfl ?_
      show Steps p.tables e below (s₁.setTop (mkF m 14 #[.val (.long q0), .second, .val (.long q1), .second, .val (.long q2), .second, .val (.int p3), .val (.int (1 : Int32)), .unset, .unset, .unset, .unset, .unset, .unset, .unset, .unset, .unset, .unset, .unset] [])) _
      refine XS.iload X0.here hx rfl (hb hby at_14) rfl ?_
      show Steps p.tables e below (s₁.setTop (mkF m 16 #[.val (.long q0), .second, .val (.long q1), .second, .val (.long q2), .second, .val (.int p3), .val (.int (1 : Int32)), .unset, .unset, .unset, .unset, .unset, .unset, .unset, .unset, .unset, .unset, .unset] [(.int p3)])) _
      refine XS.iconst X0.here hx rfl (hb hby at_16) ?_
      show Steps p.tables e below (s₁.setTop (mkF m 17 #[.val (.long q0), .second, .val (.long q1), .second, .val (.long q2), .second, .val (.int p3), .val (.int (1 : Int32)), .unset, .unset, .unset, .unset, .unset, .unset, .unset, .unset, .unset, .unset, .unset] [(.int (1 : Int32)), (.int p3)])) _
      refine XS.iushr X0.here hx rfl (hb hby at_17) rfl ?_
      show Steps p.tables e below (s₁.setTop (mkF m 18 #[.val (.long q0), .second, .val (.long q1), .second, .val (.long q2), .second, .val (.int p3), .val (.int (1 : Int32)), .unset, .unset, .unset, .unset, .unset, .unset, .unset, .unset, .unset, .unset, .unset] [(.int ((p3.toUInt32 >>> ((1 : Int32) &&& 31).toUInt32).toInt32))])) _
      refine XS.iconst X0.here hx rfl (hb hby at_18) ?_
      show Steps p.tables e below (s₁.setTop (mkF m 19 #[.val (.long q0), .second, .val (.long q1), .second, .val (.long q2), .second, .val (.int p3), .val (.int (1 : Int32)), .unset, .unset, .unset, .unset, .unset, .unset, .unset, .unset, .unset, .unset, .unset] [(.int (3 : Int32)), (.int ((p3.toUInt32 >>> ((1 : Int32) &&& 31).toUInt32).toInt32))])) _
      refine XS.iand X0.here hx rfl (hb hby at_19) rfl ?_
      show Steps p.tables e below (s₁.setTop (mkF m 20 #[.val (.long q0), .second, .val (.long q1), .second, .val (.long q2), .second, .val (.int p3), .val (.int (1 : Int32)), .unset, .unset, .unset, .unset, .unset, .unset, .unset, .unset, .unset, .unset, .unset] [(.int (((p3.toUInt32 >>> ((1 : Int32) &&& 31).toUInt32).toInt32) &&& (3 : Int32)))])) _
      refine XS.istore X0.here hx rfl (hb hby at_20) rfl (l' := #[.val (.long q0), .second, .val (.long q1), .second, .val (.long q2), .second, .val (.int p3), .val (.int (1 : Int32)), .val (.int (((p3.toUInt32 >>> ((1 : Int32) &&& 31).toUInt32).toInt32) &&& (3 : Int32))), .unset, .unset, .unset, .unset, .unset, .unset, .unset, .unset, .unset, .unset]) rfl ?_
      show Steps p.tables e below (s₁.setTop (mkF m 22 #[.val (.long q0), .second, .val (.long q1), .second, .val (.long q2), .second, .val (.int p3), .val (.int (1 : Int32)), .val (.int (((p3.toUInt32 >>> ((1 : Int32) &&& 31).toUInt32).toInt32) &&& (3 : Int32))), .unset, .unset, .unset, .unset, .unset, .unset, .unset, .unset, .unset, .unset] [])) _
      refine XS.lload X0.here hx rfl (hb hby at_22) rfl ?_
      show Steps p.tables e below (s₁.setTop (mkF m 24 #[.val (.long q0), .second, .val (.long q1), .second, .val (.long q2), .second, .val (.int p3), .val (.int (1 : Int32)), .val (.int (((p3.toUInt32 >>> ((1 : Int32) &&& 31).toUInt32).toInt32) &&& (3 : Int32))), .unset, .unset, .unset, .unset, .unset, .unset, .unset, .unset, .unset, .unset] [(.long q2)])) _
      refine X0.ldc2Long hx hown (mvT hZ (hw _ (List.mem_of_getElem? (i := 0) rfl))) (g := (mkF m 24 #[.val (.long q0), .second, .val (.long q1), .second, .val (.long q2), .second, .val (.int p3), .val (.int (1 : Int32)), .val (.int (((p3.toUInt32 >>> ((1 : Int32) &&& 31).toUInt32).toInt32) &&& (3 : Int32))), .unset, .unset, .unset, .unset, .unset, .unset, .unset, .unset, .unset, .unset] [(.long q2)])) rfl (hb hby at_24) _ ?_
      show Steps p.tables e below (s₁.setTop (mkF m 27 #[.val (.long q0), .second, .val (.long q1), .second, .val (.long q2), .second, .val (.int p3), .val (.int (1 : Int32)), .val (.int (((p3.toUInt32 >>> ((1 : Int32) &&& 31).toUInt32).toInt32) &&& (3 : Int32))), .unset, .unset, .unset, .unset, .unset, .unset, .unset, .unset, .unset, .unset] [(.long (3 : Int64)), (.long q2)])) _
      refine XS.land X0.here hx rfl (hb hby at_27) rfl ?_
      show Steps p.tables e below (s₁.setTop (mkF m 28 #[.val (.long q0), .second, .val (.long q1), .second, .val (.long q2), .second, .val (.int p3), .val (.int (1 : Int32)), .val (.int (((p3.toUInt32 >>> ((1 : Int32) &&& 31).toUInt32).toInt32) &&& (3 : Int32))), .unset, .unset, .unset, .unset, .unset, .unset, .unset, .unset, .unset, .unset] [(.long (q2 &&& (3 : Int64)))])) _
      refine XS.lconst X0.here hx rfl (hb hby at_28) ?_
      show Steps p.tables e below (s₁.setTop (mkF m 29 #[.val (.long q0), .second, .val (.long q1), .second, .val (.long q2), .second, .val (.int p3), .val (.int (1 : Int32)), .val (.int (((p3.toUInt32 >>> ((1 : Int32) &&& 31).toUInt32).toInt32) &&& (3 : Int32))), .unset, .unset, .unset, .unset, .unset, .unset, .unset, .unset, .unset, .unset] [(.long (1 : Int64)), (.long (q2 &&& (3 : Int64)))])) _
      refine XS.lsub X0.here hx rfl (hb hby at_29) rfl ?_
      show Steps p.tables e below (s₁.setTop (mkF m 30 #[.val (.long q0), .second, .val (.long q1), .second, .val (.long q2), .second, .val (.int p3), .val (.int (1 : Int32)), .val (.int (((p3.toUInt32 >>> ((1 : Int32) &&& 31).toUInt32).toInt32) &&& (3 : Int32))), .unset, .unset, .unset, .unset, .unset, .unset, .unset, .unset, .unset, .unset] [(.long ((q2 &&& (3 : Int64)) - (1 : Int64)))])) _
      refine XS.lstore X0.here hx rfl (hb hby at_30) rfl (l' := #[.val (.long q0), .second, .val (.long q1), .second, .val (.long q2), .second, .val (.int p3), .val (.int (1 : Int32)), .val (.int (((p3.toUInt32 >>> ((1 : Int32) &&& 31).toUInt32).toInt32) &&& (3 : Int32))), .val (.long ((q2 &&& (3 : Int64)) - (1 : Int64))), .second, .unset, .unset, .unset, .unset, .unset, .unset, .unset, .unset]) rfl ?_
      show Steps p.tables e below (s₁.setTop (mkF m 32 #[.val (.long q0), .second, .val (.long q1), .second, .val (.long q2), .second, .val (.int p3), .val (.int (1 : Int32)), .val (.int (((p3.toUInt32 >>> ((1 : Int32) &&& 31).toUInt32).toInt32) &&& (3 : Int32))), .val (.long ((q2 &&& (3 : Int64)) - (1 : Int64))), .second, .unset, .unset, .unset, .unset, .unset, .unset, .unset, .unset] [])) _
      refine XS.iload X0.here hx rfl (hb hby at_32) rfl ?_
      show Steps p.tables e below (s₁.setTop (mkF m 34 #[.val (.long q0), .second, .val (.long q1), .second, .val (.long q2), .second, .val (.int p3), .val (.int (1 : Int32)), .val (.int (((p3.toUInt32 >>> ((1 : Int32) &&& 31).toUInt32).toInt32) &&& (3 : Int32))), .val (.long ((q2 &&& (3 : Int64)) - (1 : Int64))), .second, .unset, .unset, .unset, .unset, .unset, .unset, .unset, .unset] [(.int (((p3.toUInt32 >>> ((1 : Int32) &&& 31).toUInt32).toInt32) &&& (3 : Int32)))])) _
      refine XS.iconst X0.here hx rfl (hb hby at_34) ?_
      exact k
    by_cases hc56 : (((p3.toUInt32 >>> ((1 : Int32) &&& 31).toUInt32).toInt32) &&& (3 : Int32)) = (1 : Int32)
    · -- hc56: yes
      refine own_go (A' := (s₁.setTop (mkF m 38 #[.val (.long q0), .second, .val (.long q1), .second, .val (.long q2), .second, .val (.int p3), .val (.int (1 : Int32)), .val (.int (((p3.toUInt32 >>> ((1 : Int32) &&& 31).toUInt32).toInt32) &&& (3 : Int32))), .val (.long ((q2 &&& (3 : Int64)) - (1 : Int64))), .second, .unset, .unset, .unset, .unset, .unset, .unset, .unset, .unset] []))) (fun t k => XS.icmpNo X0.here hx rfl (hb hby at_35) rfl (teq hc56).2 k) ?_
      refine own_go (A' := (s₁.setTop (mkF m 68 #[.val (.long q0), .second, .val (.long q1), .second, .val (.long q2), .second, .val (.int p3), .val (.int (1 : Int32)), .val (.int (((p3.toUInt32 >>> ((1 : Int32) &&& 31).toUInt32).toInt32) &&& (3 : Int32))), .val (.long ((q2 &&& (3 : Int64)) - (1 : Int64))), .second, .val (.long (q0 + ((q2 &&& (3 : Int64)) - (1 : Int64)))), .second, .unset, .unset, .unset, .unset, .unset, .unset] [(.int (1 : Int32))]))) (fun t k => ?_) ?_
      · show Steps p.tables e below (s₁.setTop (mkF m 38 #[.val (.long q0), .second, .val (.long q1), .second, .val (.long q2), .second, .val (.int p3), .val (.int (1 : Int32)), .val (.int (((p3.toUInt32 >>> ((1 : Int32) &&& 31).toUInt32).toInt32) &&& (3 : Int32))), .val (.long ((q2 &&& (3 : Int64)) - (1 : Int64))), .second, .unset, .unset, .unset, .unset, .unset, .unset, .unset, .unset] [])) _
        refine XS.lloadN X0.here hx rfl (hb hby at_38) rfl ?_
        show Steps p.tables e below (s₁.setTop (mkF m 39 #[.val (.long q0), .second, .val (.long q1), .second, .val (.long q2), .second, .val (.int p3), .val (.int (1 : Int32)), .val (.int (((p3.toUInt32 >>> ((1 : Int32) &&& 31).toUInt32).toInt32) &&& (3 : Int32))), .val (.long ((q2 &&& (3 : Int64)) - (1 : Int64))), .second, .unset, .unset, .unset, .unset, .unset, .unset, .unset, .unset] [(.long q0)])) _
        refine XS.lload X0.here hx rfl (hb hby at_39) rfl ?_
        show Steps p.tables e below (s₁.setTop (mkF m 41 #[.val (.long q0), .second, .val (.long q1), .second, .val (.long q2), .second, .val (.int p3), .val (.int (1 : Int32)), .val (.int (((p3.toUInt32 >>> ((1 : Int32) &&& 31).toUInt32).toInt32) &&& (3 : Int32))), .val (.long ((q2 &&& (3 : Int64)) - (1 : Int64))), .second, .unset, .unset, .unset, .unset, .unset, .unset, .unset, .unset] [(.long ((q2 &&& (3 : Int64)) - (1 : Int64))), (.long q0)])) _
        refine XS.ladd X0.here hx rfl (hb hby at_41) rfl ?_
        show Steps p.tables e below (s₁.setTop (mkF m 42 #[.val (.long q0), .second, .val (.long q1), .second, .val (.long q2), .second, .val (.int p3), .val (.int (1 : Int32)), .val (.int (((p3.toUInt32 >>> ((1 : Int32) &&& 31).toUInt32).toInt32) &&& (3 : Int32))), .val (.long ((q2 &&& (3 : Int64)) - (1 : Int64))), .second, .unset, .unset, .unset, .unset, .unset, .unset, .unset, .unset] [(.long (q0 + ((q2 &&& (3 : Int64)) - (1 : Int64))))])) _
        refine XS.lstore X0.here hx rfl (hb hby at_42) rfl (l' := #[.val (.long q0), .second, .val (.long q1), .second, .val (.long q2), .second, .val (.int p3), .val (.int (1 : Int32)), .val (.int (((p3.toUInt32 >>> ((1 : Int32) &&& 31).toUInt32).toInt32) &&& (3 : Int32))), .val (.long ((q2 &&& (3 : Int64)) - (1 : Int64))), .second, .val (.long (q0 + ((q2 &&& (3 : Int64)) - (1 : Int64)))), .second, .unset, .unset, .unset, .unset, .unset, .unset]) rfl ?_
        show Steps p.tables e below (s₁.setTop (mkF m 44 #[.val (.long q0), .second, .val (.long q1), .second, .val (.long q2), .second, .val (.int p3), .val (.int (1 : Int32)), .val (.int (((p3.toUInt32 >>> ((1 : Int32) &&& 31).toUInt32).toInt32) &&& (3 : Int32))), .val (.long ((q2 &&& (3 : Int64)) - (1 : Int64))), .second, .val (.long (q0 + ((q2 &&& (3 : Int64)) - (1 : Int64)))), .second, .unset, .unset, .unset, .unset, .unset, .unset] [])) _
        refine XS.goto X0.here hx rfl (pc0 := 44) (pc' := 66) rfl (hb hby at_44) (by decide) (by decide) ?_
        show Steps p.tables e below (s₁.setTop (mkF m 66 #[.val (.long q0), .second, .val (.long q1), .second, .val (.long q2), .second, .val (.int p3), .val (.int (1 : Int32)), .val (.int (((p3.toUInt32 >>> ((1 : Int32) &&& 31).toUInt32).toInt32) &&& (3 : Int32))), .val (.long ((q2 &&& (3 : Int64)) - (1 : Int64))), .second, .val (.long (q0 + ((q2 &&& (3 : Int64)) - (1 : Int64)))), .second, .unset, .unset, .unset, .unset, .unset, .unset] [])) _
        refine XS.iload X0.here hx rfl (hb hby at_66) rfl ?_
        exact k
      refine own_go (A' := (s₁.setTop (mkF m 71 #[.val (.long q0), .second, .val (.long q1), .second, .val (.long q2), .second, .val (.int p3), .val (.int (1 : Int32)), .val (.int (((p3.toUInt32 >>> ((1 : Int32) &&& 31).toUInt32).toInt32) &&& (3 : Int32))), .val (.long ((q2 &&& (3 : Int64)) - (1 : Int64))), .second, .val (.long (q0 + ((q2 &&& (3 : Int64)) - (1 : Int64)))), .second, .unset, .unset, .unset, .unset, .unset, .unset] []))) (fun t k => XS.ifNo X0.here hx rfl (hb hby at_68) rfl ((if0 _ _).trans (feq (by decide : ¬ ((1 : Int32) = (0 : Int32)))).1) k) ?_
      obtain ⟨T57, h57, X57, e57, E57, A57, D57, -, st57⟩ := newO X0 hx hZ hown (hw _ (List.mem_of_getElem? (i := 9) rfl)) (hw _ (List.mem_of_getElem? (i := 10) rfl)) (hw _ (List.mem_of_getElem? (i := 11) rfl)) e0 (g := (mkF m 81 #[.val (.long q0), .second, .val (.long q1), .second, .val (.long q2), .second, .val (.int p3), .val (.int (1 : Int32)), .val (.int (((p3.toUInt32 >>> ((1 : Int32) &&& 31).toUInt32).toInt32) &&& (3 : Int32))), .val (.long ((q2 &&& (3 : Int64)) - (1 : Int64))), .second, .val (.long (q0 + ((q2 &&& (3 : Int64)) - (1 : Int64)))), .second, .val .null, .unset, .unset, .unset, .unset, .unset] [])) rfl (hb hby at_81) (by decide) (by decide)
      obtain ⟨b57, g57⟩ : ∃ z, z = h0.size := ⟨_, rfl⟩
      have sz_b57 : h0.size ≤ b57 := Nat.le_of_eq g57.symm
      rw [← g57] at A57 D57 st57
      have K57 : Keep h0 h57 [] := (Keep.refl h0 []).ext E57
      have B57 : Ext h0 h57 := own_keep_ext K57
      have F57_min : Fld Z h57 b57 "com/example/lading/lading/core/Occurrence" "min" "J" (.long (0 : Int64)) := D57 (Or.inr (hw _ (List.mem_of_getElem? (i := 19) rfl))) (ty := .long) (by decide)
      have F57_max : Fld Z h57 b57 "com/example/lading/lading/core/Occurrence" "max" "Ljava/lang/Long;" .null := D57 (Or.inr (hw _ (List.mem_of_getElem? (i := 21) rfl))) (ty := (.object "java/lang/Long")) (by decide)
      obtain ⟨_, _, ⟨T58, L58, k58, n58⟩, -, X58, ⟨Lc58, hQ58, l58, y58, z58⟩, st58⟩ := X57.specialBack hx (y := (⟨"com/example/lading/lading/core/Occurrence", "<init>", "(JLjava/lang/Long;)V"⟩ : MethodName)) rfl hown (mvT hZ (hw _ (List.mem_of_getElem? (i := 12) rfl))) (mvT hZ (hw _ (List.mem_of_getElem? (i := 13) rfl))) (mvT hZ (hw _ (List.mem_of_getElem? (i := 14) rfl))) (by decide) (backOf (W := 1) (rm2n l Z a0 hw [] b57 q0  h57 n0 (Nat.le_trans Z0 K57.1) A57 F57_min F57_max (Nat.le_trans Z0 sz_b57)) hZ (hw _ (List.mem_of_getElem? (i := 14) rfl)) (hw _ (List.mem_of_getElem? (i := 11) rfl)) (by decide) (by decide)) (g := (mkF m 88 #[.val (.long q0), .second, .val (.long q1), .second, .val (.long q2), .second, .val (.int p3), .val (.int (1 : Int32)), .val (.int (((p3.toUInt32 >>> ((1 : Int32) &&& 31).toUInt32).toInt32) &&& (3 : Int32))), .val (.long ((q2 &&& (3 : Int64)) - (1 : Int64))), .second, .val (.long (q0 + ((q2 &&& (3 : Int64)) - (1 : Int64)))), .second, .val .null, .unset, .unset, .unset, .unset, .unset] [.null, (.long q0), (.ref b57), (.ref b57)])) rfl (by rw [hml]; rfl) (Steps.refl _) (a := b57) (argsL := [(.long q0), .null]) (rest := [(.ref b57)]) (lenOf pd_4 rfl) rfl (by show 2 * 0 + _ ≤ _; exact Nat.le_of_eq rfl) (hb hby at_88) (fun _ _ => ⟨rfl, e57, (by decide : 1 + 0 ≤ _), (by decide : 2 + 0 ≤ _)⟩)
      dsimp only [Pt.U, Pt.locs, Pt.cells, Pt.slots] at X58 l58 y58 z58 st58 hQ58
      subst l58 y58 z58
      obtain ⟨rfl, N58q, K58q, E58q, F58q, G58q⟩ := hQ58
      have N58 := Fr.app N0 N58q
      have K58 : Keep h0 T58.heap [] := K57.trans K58q (allS (Or.inr sz_b57) all0)
      have B58 : Ext h0 T58.heap := own_keep_ext K58
      obtain ⟨cq59, kq59, q59a, q59b, q59c⟩ := isOf hZ rfl E58q
      obtain ⟨_, _, ⟨T59, L59, k59, n59⟩, -, X59, ⟨Lc59, hQ59, l59, y59, z59⟩, st59⟩ := X58.virtualBack hx (y := (⟨"com/example/lading/lading/core/Occurrence", "allows", "(J)Z"⟩ : MethodName)) (z := (⟨"com/example/lading/lading/core/Occurrence", "allows", "(J)Z"⟩ : MethodName)) hown (mvT hZ (hw _ (List.mem_of_getElem? (i := 22) rfl))) (mvT hZ (hw _ (List.mem_of_getElem? (i := 23) rfl))) (notFace_of_selects (args := #[]) (mvT hZ (hw _ (List.mem_of_getElem? (i := 25) rfl)))) (mvT hZ (hw _ (List.mem_of_getElem? (i := 25) rfl))) (mvT hZ (hw _ (List.mem_of_getElem? (i := 24) rfl))) (by decide) (backOf (W := 0) (rm4n l Z a0 hw [] b57 (q0 + ((q2 &&& (3 : Int64)) - (1 : Int64))) q0 T58.heap n0 (Nat.le_trans Z0 K58.1) F58q G58q) hZ (hw _ (List.mem_of_getElem? (i := 26) rfl)) (hw _ (List.mem_of_getElem? (i := 11) rfl)) (by decide) (by decide)) q59a q59c (g := (mkF m 97 #[.val (.long q0), .second, .val (.long q1), .second, .val (.long q2), .second, .val (.int p3), .val (.int (1 : Int32)), .val (.int (((p3.toUInt32 >>> ((1 : Int32) &&& 31).toUInt32).toInt32) &&& (3 : Int32))), .val (.long ((q2 &&& (3 : Int64)) - (1 : Int64))), .second, .val (.long (q0 + ((q2 &&& (3 : Int64)) - (1 : Int64)))), .second, .val .null, .val (.ref b57), .unset, .unset, .unset, .unset] [(.long (q0 + ((q2 &&& (3 : Int64)) - (1 : Int64)))), (.ref b57)])) rfl (by rw [hml]; rfl) (Steps.refl _) (argsL := [(.long (q0 + ((q2 &&& (3 : Int64)) - (1 : Int64))))]) (rest := []) (lenOf pd_5 rfl) rfl (by show 2 * 0 + _ ≤ _; exact Nat.le_of_eq rfl) (hb hby at_97) (fun _ _ => ⟨rfl, rfl, (by decide : 1 + 0 ≤ _), (by decide : 2 + 0 ≤ _)⟩)
      dsimp only [Pt.U, Pt.locs, Pt.cells, Pt.slots] at X59 l59 y59 z59 st59 hQ59
      subst l59 y59 z59
      obtain ⟨rfl, N59q, e59⟩ := hQ59
      have N59 := Fr.app N58 N59q
      refine own_go (A' := (T59.setTop (mkF m 104 #[.val (.long q0), .second, .val (.long q1), .second, .val (.long q2), .second, .val (.int p3), .val (.int (1 : Int32)), .val (.int (((p3.toUInt32 >>> ((1 : Int32) &&& 31).toUInt32).toInt32) &&& (3 : Int32))), .val (.long ((q2 &&& (3 : Int64)) - (1 : Int64))), .second, .val (.long (q0 + ((q2 &&& (3 : Int64)) - (1 : Int64)))), .second, .val .null, .val (.ref b57), .val (.int (alN q0 (q0 + ((q2 &&& (3 : Int64)) - (1 : Int64))))), .unset, .unset, .unset] [(.int (1 : Int32))]))) (fun t k => ?_) ?_
      · show Steps p.tables e below (s₁.setTop (mkF m 71 #[.val (.long q0), .second, .val (.long q1), .second, .val (.long q2), .second, .val (.int p3), .val (.int (1 : Int32)), .val (.int (((p3.toUInt32 >>> ((1 : Int32) &&& 31).toUInt32).toInt32) &&& (3 : Int32))), .val (.long ((q2 &&& (3 : Int64)) - (1 : Int64))), .second, .val (.long (q0 + ((q2 &&& (3 : Int64)) - (1 : Int64)))), .second, .unset, .unset, .unset, .unset, .unset, .unset] [])) _
        refine XS.aconstNull X0.here hx rfl (hb hby at_71) ?_
        show Steps p.tables e below (s₁.setTop (mkF m 72 #[.val (.long q0), .second, .val (.long q1), .second, .val (.long q2), .second, .val (.int p3), .val (.int (1 : Int32)), .val (.int (((p3.toUInt32 >>> ((1 : Int32) &&& 31).toUInt32).toInt32) &&& (3 : Int32))), .val (.long ((q2 &&& (3 : Int64)) - (1 : Int64))), .second, .val (.long (q0 + ((q2 &&& (3 : Int64)) - (1 : Int64)))), .second, .unset, .unset, .unset, .unset, .unset, .unset] [.null])) _
        refine XS.goto X0.here hx rfl (pc0 := 72) (pc' := 79) rfl (hb hby at_72) (by decide) (by decide) ?_
        show Steps p.tables e below (s₁.setTop (mkF m 79 #[.val (.long q0), .second, .val (.long q1), .second, .val (.long q2), .second, .val (.int p3), .val (.int (1 : Int32)), .val (.int (((p3.toUInt32 >>> ((1 : Int32) &&& 31).toUInt32).toInt32) &&& (3 : Int32))), .val (.long ((q2 &&& (3 : Int64)) - (1 : Int64))), .second, .val (.long (q0 + ((q2 &&& (3 : Int64)) - (1 : Int64)))), .second, .unset, .unset, .unset, .unset, .unset, .unset] [.null])) _
        refine XS.astore X0.here hx rfl (hb hby at_79) rfl rfl (l' := #[.val (.long q0), .second, .val (.long q1), .second, .val (.long q2), .second, .val (.int p3), .val (.int (1 : Int32)), .val (.int (((p3.toUInt32 >>> ((1 : Int32) &&& 31).toUInt32).toInt32) &&& (3 : Int32))), .val (.long ((q2 &&& (3 : Int64)) - (1 : Int64))), .second, .val (.long (q0 + ((q2 &&& (3 : Int64)) - (1 : Int64)))), .second, .val .null, .unset, .unset, .unset, .unset, .unset]) rfl ?_
        show Steps p.tables e below (s₁.setTop (mkF m 81 #[.val (.long q0), .second, .val (.long q1), .second, .val (.long q2), .second, .val (.int p3), .val (.int (1 : Int32)), .val (.int (((p3.toUInt32 >>> ((1 : Int32) &&& 31).toUInt32).toInt32) &&& (3 : Int32))), .val (.long ((q2 &&& (3 : Int64)) - (1 : Int64))), .second, .val (.long (q0 + ((q2 &&& (3 : Int64)) - (1 : Int64)))), .second, .val .null, .unset, .unset, .unset, .unset, .unset] [])) _
        refine st57 _ ?_
        show Steps p.tables e below (T57.setTop (mkF m 84 #[.val (.long q0), .second, .val (.long q1), .second, .val (.long q2), .second, .val (.int p3), .val (.int (1 : Int32)), .val (.int (((p3.toUInt32 >>> ((1 : Int32) &&& 31).toUInt32).toInt32) &&& (3 : Int32))), .val (.long ((q2 &&& (3 : Int64)) - (1 : Int64))), .second, .val (.long (q0 + ((q2 &&& (3 : Int64)) - (1 : Int64)))), .second, .val .null, .unset, .unset, .unset, .unset, .unset] [(.ref b57)])) _
        refine XS.dup X57.here hx rfl (hb hby at_84) rfl rfl ?_
        show Steps p.tables e below (T57.setTop (mkF m 85 #[.val (.long q0), .second, .val (.long q1), .second, .val (.long q2), .second, .val (.int p3), .val (.int (1 : Int32)), .val (.int (((p3.toUInt32 >>> ((1 : Int32) &&& 31).toUInt32).toInt32) &&& (3 : Int32))), .val (.long ((q2 &&& (3 : Int64)) - (1 : Int64))), .second, .val (.long (q0 + ((q2 &&& (3 : Int64)) - (1 : Int64)))), .second, .val .null, .unset, .unset, .unset, .unset, .unset] [(.ref b57), (.ref b57)])) _
        refine XS.lloadN X57.here hx rfl (hb hby at_85) rfl ?_
        show Steps p.tables e below (T57.setTop (mkF m 86 #[.val (.long q0), .second, .val (.long q1), .second, .val (.long q2), .second, .val (.int p3), .val (.int (1 : Int32)), .val (.int (((p3.toUInt32 >>> ((1 : Int32) &&& 31).toUInt32).toInt32) &&& (3 : Int32))), .val (.long ((q2 &&& (3 : Int64)) - (1 : Int64))), .second, .val (.long (q0 + ((q2 &&& (3 : Int64)) - (1 : Int64)))), .second, .val .null, .unset, .unset, .unset, .unset, .unset] [(.long q0), (.ref b57), (.ref b57)])) _
        refine XS.aload X57.here hx rfl (hb hby at_86) rfl rfl ?_
        show Steps p.tables e below (T57.setTop (mkF m 88 #[.val (.long q0), .second, .val (.long q1), .second, .val (.long q2), .second, .val (.int p3), .val (.int (1 : Int32)), .val (.int (((p3.toUInt32 >>> ((1 : Int32) &&& 31).toUInt32).toInt32) &&& (3 : Int32))), .val (.long ((q2 &&& (3 : Int64)) - (1 : Int64))), .second, .val (.long (q0 + ((q2 &&& (3 : Int64)) - (1 : Int64)))), .second, .val .null, .unset, .unset, .unset, .unset, .unset] [.null, (.long q0), (.ref b57), (.ref b57)])) _
        refine st58.trans ?_
        show Steps p.tables e below (T58.setTop (mkF m 91 #[.val (.long q0), .second, .val (.long q1), .second, .val (.long q2), .second, .val (.int p3), .val (.int (1 : Int32)), .val (.int (((p3.toUInt32 >>> ((1 : Int32) &&& 31).toUInt32).toInt32) &&& (3 : Int32))), .val (.long ((q2 &&& (3 : Int64)) - (1 : Int64))), .second, .val (.long (q0 + ((q2 &&& (3 : Int64)) - (1 : Int64)))), .second, .val .null, .unset, .unset, .unset, .unset, .unset] [(.ref b57)])) _
        refine XS.astore X58.here hx rfl (hb hby at_91) rfl rfl (l' := #[.val (.long q0), .second, .val (.long q1), .second, .val (.long q2), .second, .val (.int p3), .val (.int (1 : Int32)), .val (.int (((p3.toUInt32 >>> ((1 : Int32) &&& 31).toUInt32).toInt32) &&& (3 : Int32))), .val (.long ((q2 &&& (3 : Int64)) - (1 : Int64))), .second, .val (.long (q0 + ((q2 &&& (3 : Int64)) - (1 : Int64)))), .second, .val .null, .val (.ref b57), .unset, .unset, .unset, .unset]) rfl ?_
        show Steps p.tables e below (T58.setTop (mkF m 93 #[.val (.long q0), .second, .val (.long q1), .second, .val (.long q2), .second, .val (.int p3), .val (.int (1 : Int32)), .val (.int (((p3.toUInt32 >>> ((1 : Int32) &&& 31).toUInt32).toInt32) &&& (3 : Int32))), .val (.long ((q2 &&& (3 : Int64)) - (1 : Int64))), .second, .val (.long (q0 + ((q2 &&& (3 : Int64)) - (1 : Int64)))), .second, .val .null, .val (.ref b57), .unset, .unset, .unset, .unset] [])) _
        refine XS.aload X58.here hx rfl (hb hby at_93) rfl rfl ?_
        show Steps p.tables e below (T58.setTop (mkF m 95 #[.val (.long q0), .second, .val (.long q1), .second, .val (.long q2), .second, .val (.int p3), .val (.int (1 : Int32)), .val (.int (((p3.toUInt32 >>> ((1 : Int32) &&& 31).toUInt32).toInt32) &&& (3 : Int32))), .val (.long ((q2 &&& (3 : Int64)) - (1 : Int64))), .second, .val (.long (q0 + ((q2 &&& (3 : Int64)) - (1 : Int64)))), .second, .val .null, .val (.ref b57), .unset, .unset, .unset, .unset] [(.ref b57)])) _
        refine XS.lload X58.here hx rfl (hb hby at_95) rfl ?_
        show Steps p.tables e below (T58.setTop (mkF m 97 #[.val (.long q0), .second, .val (.long q1), .second, .val (.long q2), .second, .val (.int p3), .val (.int (1 : Int32)), .val (.int (((p3.toUInt32 >>> ((1 : Int32) &&& 31).toUInt32).toInt32) &&& (3 : Int32))), .val (.long ((q2 &&& (3 : Int64)) - (1 : Int64))), .second, .val (.long (q0 + ((q2 &&& (3 : Int64)) - (1 : Int64)))), .second, .val .null, .val (.ref b57), .unset, .unset, .unset, .unset] [(.long (q0 + ((q2 &&& (3 : Int64)) - (1 : Int64)))), (.ref b57)])) _
        refine st59.trans ?_
        show Steps p.tables e below (T59.setTop (mkF m 100 #[.val (.long q0), .second, .val (.long q1), .second, .val (.long q2), .second, .val (.int p3), .val (.int (1 : Int32)), .val (.int (((p3.toUInt32 >>> ((1 : Int32) &&& 31).toUInt32).toInt32) &&& (3 : Int32))), .val (.long ((q2 &&& (3 : Int64)) - (1 : Int64))), .second, .val (.long (q0 + ((q2 &&& (3 : Int64)) - (1 : Int64)))), .second, .val .null, .val (.ref b57), .unset, .unset, .unset, .unset] [(.int (alN q0 (q0 + ((q2 &&& (3 : Int64)) - (1 : Int64)))))])) _
        refine XS.istore X59.here hx rfl (hb hby at_100) rfl (l' := #[.val (.long q0), .second, .val (.long q1), .second, .val (.long q2), .second, .val (.int p3), .val (.int (1 : Int32)), .val (.int (((p3.toUInt32 >>> ((1 : Int32) &&& 31).toUInt32).toInt32) &&& (3 : Int32))), .val (.long ((q2 &&& (3 : Int64)) - (1 : Int64))), .second, .val (.long (q0 + ((q2 &&& (3 : Int64)) - (1 : Int64)))), .second, .val .null, .val (.ref b57), .val (.int (alN q0 (q0 + ((q2 &&& (3 : Int64)) - (1 : Int64))))), .unset, .unset, .unset]) rfl ?_
        show Steps p.tables e below (T59.setTop (mkF m 102 #[.val (.long q0), .second, .val (.long q1), .second, .val (.long q2), .second, .val (.int p3), .val (.int (1 : Int32)), .val (.int (((p3.toUInt32 >>> ((1 : Int32) &&& 31).toUInt32).toInt32) &&& (3 : Int32))), .val (.long ((q2 &&& (3 : Int64)) - (1 : Int64))), .second, .val (.long (q0 + ((q2 &&& (3 : Int64)) - (1 : Int64)))), .second, .val .null, .val (.ref b57), .val (.int (alN q0 (q0 + ((q2 &&& (3 : Int64)) - (1 : Int64))))), .unset, .unset, .unset] [])) _
        refine XS.iload X59.here hx rfl (hb hby at_102) rfl ?_
        exact k
      refine own_go (A' := (T59.setTop (mkF m 107 #[.val (.long q0), .second, .val (.long q1), .second, .val (.long q2), .second, .val (.int p3), .val (.int (1 : Int32)), .val (.int (((p3.toUInt32 >>> ((1 : Int32) &&& 31).toUInt32).toInt32) &&& (3 : Int32))), .val (.long ((q2 &&& (3 : Int64)) - (1 : Int64))), .second, .val (.long (q0 + ((q2 &&& (3 : Int64)) - (1 : Int64)))), .second, .val .null, .val (.ref b57), .val (.int (alN q0 (q0 + ((q2 &&& (3 : Int64)) - (1 : Int64))))), .unset, .unset, .unset] []))) (fun t k => XS.ifNo X59.here hx rfl (hb hby at_104) rfl ((if0 _ _).trans (feq (by decide : ¬ ((1 : Int32) = (0 : Int32)))).1) k) ?_
      refine own_go (A' := (T59.setTop (mkF m 120 #[.val (.long q0), .second, .val (.long q1), .second, .val (.long q2), .second, .val (.int p3), .val (.int (1 : Int32)), .val (.int (((p3.toUInt32 >>> ((1 : Int32) &&& 31).toUInt32).toInt32) &&& (3 : Int32))), .val (.long ((q2 &&& (3 : Int64)) - (1 : Int64))), .second, .val (.long (q0 + ((q2 &&& (3 : Int64)) - (1 : Int64)))), .second, .val .null, .val (.ref b57), .val (.int (alN q0 (q0 + ((q2 &&& (3 : Int64)) - (1 : Int64))))), .val (.long (9223372036854775807 : Int64)), .second, .unset] [(.int (lcmpW q0 (9223372036854775807 : Int64)))]))) (fun t k => ?_) ?_
      · show Steps p.tables e below (T59.setTop (mkF m 107 #[.val (.long q0), .second, .val (.long q1), .second, .val (.long q2), .second, .val (.int p3), .val (.int (1 : Int32)), .val (.int (((p3.toUInt32 >>> ((1 : Int32) &&& 31).toUInt32).toInt32) &&& (3 : Int32))), .val (.long ((q2 &&& (3 : Int64)) - (1 : Int64))), .second, .val (.long (q0 + ((q2 &&& (3 : Int64)) - (1 : Int64)))), .second, .val .null, .val (.ref b57), .val (.int (alN q0 (q0 + ((q2 &&& (3 : Int64)) - (1 : Int64))))), .unset, .unset, .unset] [])) _
        refine X59.ldc2Long hx hown (mvT hZ (hw _ (List.mem_of_getElem? (i := 54) rfl))) (g := (mkF m 107 #[.val (.long q0), .second, .val (.long q1), .second, .val (.long q2), .second, .val (.int p3), .val (.int (1 : Int32)), .val (.int (((p3.toUInt32 >>> ((1 : Int32) &&& 31).toUInt32).toInt32) &&& (3 : Int32))), .val (.long ((q2 &&& (3 : Int64)) - (1 : Int64))), .second, .val (.long (q0 + ((q2 &&& (3 : Int64)) - (1 : Int64)))), .second, .val .null, .val (.ref b57), .val (.int (alN q0 (q0 + ((q2 &&& (3 : Int64)) - (1 : Int64))))), .unset, .unset, .unset] [])) rfl (hb hby at_107) _ ?_
        show Steps p.tables e below (T59.setTop (mkF m 110 #[.val (.long q0), .second, .val (.long q1), .second, .val (.long q2), .second, .val (.int p3), .val (.int (1 : Int32)), .val (.int (((p3.toUInt32 >>> ((1 : Int32) &&& 31).toUInt32).toInt32) &&& (3 : Int32))), .val (.long ((q2 &&& (3 : Int64)) - (1 : Int64))), .second, .val (.long (q0 + ((q2 &&& (3 : Int64)) - (1 : Int64)))), .second, .val .null, .val (.ref b57), .val (.int (alN q0 (q0 + ((q2 &&& (3 : Int64)) - (1 : Int64))))), .unset, .unset, .unset] [(.long (9223372036854775807 : Int64))])) _
        refine XS.goto X59.here hx rfl (pc0 := 110) (pc' := 114) rfl (hb hby at_110) (by decide) (by decide) ?_
        show Steps p.tables e below (T59.setTop (mkF m 114 #[.val (.long q0), .second, .val (.long q1), .second, .val (.long q2), .second, .val (.int p3), .val (.int (1 : Int32)), .val (.int (((p3.toUInt32 >>> ((1 : Int32) &&& 31).toUInt32).toInt32) &&& (3 : Int32))), .val (.long ((q2 &&& (3 : Int64)) - (1 : Int64))), .second, .val (.long (q0 + ((q2 &&& (3 : Int64)) - (1 : Int64)))), .second, .val .null, .val (.ref b57), .val (.int (alN q0 (q0 + ((q2 &&& (3 : Int64)) - (1 : Int64))))), .unset, .unset, .unset] [(.long (9223372036854775807 : Int64))])) _
        refine XS.lstore X59.here hx rfl (hb hby at_114) rfl (l' := #[.val (.long q0), .second, .val (.long q1), .second, .val (.long q2), .second, .val (.int p3), .val (.int (1 : Int32)), .val (.int (((p3.toUInt32 >>> ((1 : Int32) &&& 31).toUInt32).toInt32) &&& (3 : Int32))), .val (.long ((q2 &&& (3 : Int64)) - (1 : Int64))), .second, .val (.long (q0 + ((q2 &&& (3 : Int64)) - (1 : Int64)))), .second, .val .null, .val (.ref b57), .val (.int (alN q0 (q0 + ((q2 &&& (3 : Int64)) - (1 : Int64))))), .val (.long (9223372036854775807 : Int64)), .second, .unset]) rfl ?_
        show Steps p.tables e below (T59.setTop (mkF m 116 #[.val (.long q0), .second, .val (.long q1), .second, .val (.long q2), .second, .val (.int p3), .val (.int (1 : Int32)), .val (.int (((p3.toUInt32 >>> ((1 : Int32) &&& 31).toUInt32).toInt32) &&& (3 : Int32))), .val (.long ((q2 &&& (3 : Int64)) - (1 : Int64))), .second, .val (.long (q0 + ((q2 &&& (3 : Int64)) - (1 : Int64)))), .second, .val .null, .val (.ref b57), .val (.int (alN q0 (q0 + ((q2 &&& (3 : Int64)) - (1 : Int64))))), .val (.long (9223372036854775807 : Int64)), .second, .unset] [])) _
        refine XS.lloadN X59.here hx rfl (hb hby at_116) rfl ?_
        show Steps p.tables e below (T59.setTop (mkF m 117 #[.val (.long q0), .second, .val (.long q1), .second, .val (.long q2), .second, .val (.int p3), .val (.int (1 : Int32)), .val (.int (((p3.toUInt32 >>> ((1 : Int32) &&& 31).toUInt32).toInt32) &&& (3 : Int32))), .val (.long ((q2 &&& (3 : Int64)) - (1 : Int64))), .second, .val (.long (q0 + ((q2 &&& (3 : Int64)) - (1 : Int64)))), .second, .val .null, .val (.ref b57), .val (.int (alN q0 (q0 + ((q2 &&& (3 : Int64)) - (1 : Int64))))), .val (.long (9223372036854775807 : Int64)), .second, .unset] [(.long q0)])) _
        refine XS.lload X59.here hx rfl (hb hby at_117) rfl ?_
        show Steps p.tables e below (T59.setTop (mkF m 119 #[.val (.long q0), .second, .val (.long q1), .second, .val (.long q2), .second, .val (.int p3), .val (.int (1 : Int32)), .val (.int (((p3.toUInt32 >>> ((1 : Int32) &&& 31).toUInt32).toInt32) &&& (3 : Int32))), .val (.long ((q2 &&& (3 : Int64)) - (1 : Int64))), .second, .val (.long (q0 + ((q2 &&& (3 : Int64)) - (1 : Int64)))), .second, .val .null, .val (.ref b57), .val (.int (alN q0 (q0 + ((q2 &&& (3 : Int64)) - (1 : Int64))))), .val (.long (9223372036854775807 : Int64)), .second, .unset] [(.long (9223372036854775807 : Int64)), (.long q0)])) _
        refine XS.lcmp X59.here hx rfl (hb hby at_119) rfl ?_
        exact k
      by_cases hc60 : (0 : Int32) < (lcmpW q0 (9223372036854775807 : Int64))
      · -- hc60: yes
        refine own_go (A' := (T59.setTop (mkF m 144 #[.val (.long q0), .second, .val (.long q1), .second, .val (.long q2), .second, .val (.int p3), .val (.int (1 : Int32)), .val (.int (((p3.toUInt32 >>> ((1 : Int32) &&& 31).toUInt32).toInt32) &&& (3 : Int32))), .val (.long ((q2 &&& (3 : Int64)) - (1 : Int64))), .second, .val (.long (q0 + ((q2 &&& (3 : Int64)) - (1 : Int64)))), .second, .val .null, .val (.ref b57), .val (.int (alN q0 (q0 + ((q2 &&& (3 : Int64)) - (1 : Int64))))), .val (.long (9223372036854775807 : Int64)), .second, .unset] []))) (fun t k => XS.ifYes X59.here hx rfl (pc0 := 120) (pc' := 144) rfl (hb hby at_120) rfl ((if0 _ _).trans (tlt hc60).2.2.1) (by decide) (by decide) k) ?_
        refine own_go (A' := (T59.setTop (mkF m 151 #[.val (.long q0), .second, .val (.long q1), .second, .val (.long q2), .second, .val (.int p3), .val (.int (1 : Int32)), .val (.int (((p3.toUInt32 >>> ((1 : Int32) &&& 31).toUInt32).toInt32) &&& (3 : Int32))), .val (.long ((q2 &&& (3 : Int64)) - (1 : Int64))), .second, .val (.long (q0 + ((q2 &&& (3 : Int64)) - (1 : Int64)))), .second, .val .null, .val (.ref b57), .val (.int (alN q0 (q0 + ((q2 &&& (3 : Int64)) - (1 : Int64))))), .val (.long (9223372036854775807 : Int64)), .second, .val (.int (0 : Int32))] [(.int (0 : Int32)), (.int (alN q0 (q0 + ((q2 &&& (3 : Int64)) - (1 : Int64)))))]))) (fun t k => ?_) ?_
        · show Steps p.tables e below (T59.setTop (mkF m 144 #[.val (.long q0), .second, .val (.long q1), .second, .val (.long q2), .second, .val (.int p3), .val (.int (1 : Int32)), .val (.int (((p3.toUInt32 >>> ((1 : Int32) &&& 31).toUInt32).toInt32) &&& (3 : Int32))), .val (.long ((q2 &&& (3 : Int64)) - (1 : Int64))), .second, .val (.long (q0 + ((q2 &&& (3 : Int64)) - (1 : Int64)))), .second, .val .null, .val (.ref b57), .val (.int (alN q0 (q0 + ((q2 &&& (3 : Int64)) - (1 : Int64))))), .val (.long (9223372036854775807 : Int64)), .second, .unset] [])) _
          refine XS.iconst X59.here hx rfl (hb hby at_144) ?_
          show Steps p.tables e below (T59.setTop (mkF m 145 #[.val (.long q0), .second, .val (.long q1), .second, .val (.long q2), .second, .val (.int p3), .val (.int (1 : Int32)), .val (.int (((p3.toUInt32 >>> ((1 : Int32) &&& 31).toUInt32).toInt32) &&& (3 : Int32))), .val (.long ((q2 &&& (3 : Int64)) - (1 : Int64))), .second, .val (.long (q0 + ((q2 &&& (3 : Int64)) - (1 : Int64)))), .second, .val .null, .val (.ref b57), .val (.int (alN q0 (q0 + ((q2 &&& (3 : Int64)) - (1 : Int64))))), .val (.long (9223372036854775807 : Int64)), .second, .unset] [(.int (0 : Int32))])) _
          refine XS.istore X59.here hx rfl (hb hby at_145) rfl (l' := #[.val (.long q0), .second, .val (.long q1), .second, .val (.long q2), .second, .val (.int p3), .val (.int (1 : Int32)), .val (.int (((p3.toUInt32 >>> ((1 : Int32) &&& 31).toUInt32).toInt32) &&& (3 : Int32))), .val (.long ((q2 &&& (3 : Int64)) - (1 : Int64))), .second, .val (.long (q0 + ((q2 &&& (3 : Int64)) - (1 : Int64)))), .second, .val .null, .val (.ref b57), .val (.int (alN q0 (q0 + ((q2 &&& (3 : Int64)) - (1 : Int64))))), .val (.long (9223372036854775807 : Int64)), .second, .val (.int (0 : Int32))]) rfl ?_
          show Steps p.tables e below (T59.setTop (mkF m 147 #[.val (.long q0), .second, .val (.long q1), .second, .val (.long q2), .second, .val (.int p3), .val (.int (1 : Int32)), .val (.int (((p3.toUInt32 >>> ((1 : Int32) &&& 31).toUInt32).toInt32) &&& (3 : Int32))), .val (.long ((q2 &&& (3 : Int64)) - (1 : Int64))), .second, .val (.long (q0 + ((q2 &&& (3 : Int64)) - (1 : Int64)))), .second, .val .null, .val (.ref b57), .val (.int (alN q0 (q0 + ((q2 &&& (3 : Int64)) - (1 : Int64))))), .val (.long (9223372036854775807 : Int64)), .second, .val (.int (0 : Int32))] [])) _
          refine XS.iload X59.here hx rfl (hb hby at_147) rfl ?_
          show Steps p.tables e below (T59.setTop (mkF m 149 #[.val (.long q0), .second, .val (.long q1), .second, .val (.long q2), .second, .val (.int p3), .val (.int (1 : Int32)), .val (.int (((p3.toUInt32 >>> ((1 : Int32) &&& 31).toUInt32).toInt32) &&& (3 : Int32))), .val (.long ((q2 &&& (3 : Int64)) - (1 : Int64))), .second, .val (.long (q0 + ((q2 &&& (3 : Int64)) - (1 : Int64)))), .second, .val .null, .val (.ref b57), .val (.int (alN q0 (q0 + ((q2 &&& (3 : Int64)) - (1 : Int64))))), .val (.long (9223372036854775807 : Int64)), .second, .val (.int (0 : Int32))] [(.int (alN q0 (q0 + ((q2 &&& (3 : Int64)) - (1 : Int64)))))])) _
          refine XS.iload X59.here hx rfl (hb hby at_149) rfl ?_
          exact k
        refine own_go (A' := (T59.setTop (mkF m 154 #[.val (.long q0), .second, .val (.long q1), .second, .val (.long q2), .second, .val (.int p3), .val (.int (1 : Int32)), .val (.int (((p3.toUInt32 >>> ((1 : Int32) &&& 31).toUInt32).toInt32) &&& (3 : Int32))), .val (.long ((q2 &&& (3 : Int64)) - (1 : Int64))), .second, .val (.long (q0 + ((q2 &&& (3 : Int64)) - (1 : Int64)))), .second, .val .null, .val (.ref b57), .val (.int (alN q0 (q0 + ((q2 &&& (3 : Int64)) - (1 : Int64))))), .val (.long (9223372036854775807 : Int64)), .second, .val (.int (0 : Int32))] []))) (fun t k => XS.icmpNo X59.here hx rfl (hb hby at_151) rfl (teq ((own_alN _ _).trans (own_A _ hc60))).2 k) ?_
        refine own_go (A' := (T59.setTop (mkF m 159 #[.val (.long q0), .second, .val (.long q1), .second, .val (.long q2), .second, .val (.int p3), .val (.int (1 : Int32)), .val (.int (((p3.toUInt32 >>> ((1 : Int32) &&& 31).toUInt32).toInt32) &&& (3 : Int32))), .val (.long ((q2 &&& (3 : Int64)) - (1 : Int64))), .second, .val (.long (q0 + ((q2 &&& (3 : Int64)) - (1 : Int64)))), .second, .val .null, .val (.ref b57), .val (.int (alN q0 (q0 + ((q2 &&& (3 : Int64)) - (1 : Int64))))), .val (.long (9223372036854775807 : Int64)), .second, .val (.int (0 : Int32))] [(.int (1 : Int32))]))) (fun t k => ?_) ?_
        · show Steps p.tables e below (T59.setTop (mkF m 154 #[.val (.long q0), .second, .val (.long q1), .second, .val (.long q2), .second, .val (.int p3), .val (.int (1 : Int32)), .val (.int (((p3.toUInt32 >>> ((1 : Int32) &&& 31).toUInt32).toInt32) &&& (3 : Int32))), .val (.long ((q2 &&& (3 : Int64)) - (1 : Int64))), .second, .val (.long (q0 + ((q2 &&& (3 : Int64)) - (1 : Int64)))), .second, .val .null, .val (.ref b57), .val (.int (alN q0 (q0 + ((q2 &&& (3 : Int64)) - (1 : Int64))))), .val (.long (9223372036854775807 : Int64)), .second, .val (.int (0 : Int32))] [])) _
          refine XS.iconst X59.here hx rfl (hb hby at_154) ?_
          show Steps p.tables e below (T59.setTop (mkF m 155 #[.val (.long q0), .second, .val (.long q1), .second, .val (.long q2), .second, .val (.int p3), .val (.int (1 : Int32)), .val (.int (((p3.toUInt32 >>> ((1 : Int32) &&& 31).toUInt32).toInt32) &&& (3 : Int32))), .val (.long ((q2 &&& (3 : Int64)) - (1 : Int64))), .second, .val (.long (q0 + ((q2 &&& (3 : Int64)) - (1 : Int64)))), .second, .val .null, .val (.ref b57), .val (.int (alN q0 (q0 + ((q2 &&& (3 : Int64)) - (1 : Int64))))), .val (.long (9223372036854775807 : Int64)), .second, .val (.int (0 : Int32))] [(.int (1 : Int32))])) _
          refine XS.goto X59.here hx rfl (pc0 := 155) (pc' := 159) rfl (hb hby at_155) (by decide) (by decide) ?_
          exact k
        obtain ⟨fs, hr, hrun, hended, hW, hsame⟩ := X59.leave (v := some (.int (1 : Int32))) (fun h => by rw [Bd.returns] at h; cases h) hlk
        refine ⟨_, _, ?_, hrun, hended, _, _, rfl, ?_, ⟨_, rfl⟩, hW, hsame.mono (by decide) (by decide)⟩
        · show Steps p.tables e below (T59.setTop (mkF m 159 #[.val (.long q0), .second, .val (.long q1), .second, .val (.long q2), .second, .val (.int p3), .val (.int (1 : Int32)), .val (.int (((p3.toUInt32 >>> ((1 : Int32) &&& 31).toUInt32).toInt32) &&& (3 : Int32))), .val (.long ((q2 &&& (3 : Int64)) - (1 : Int64))), .second, .val (.long (q0 + ((q2 &&& (3 : Int64)) - (1 : Int64)))), .second, .val .null, .val (.ref b57), .val (.int (alN q0 (q0 + ((q2 &&& (3 : Int64)) - (1 : Int64))))), .val (.long (9223372036854775807 : Int64)), .second, .val (.int (0 : Int32))] [(.int (1 : Int32))])) _
          exact retN X59 hx (t := .boolean) Bd.returns (by simp) (hb hby at_159) hr
        · show Q0 Z q0 q1 q2 p3 wC clC h0 n0 _ T59.heap _
          exact ⟨rfl, N59⟩
      · -- hc60: no
        refine own_go (A' := (T59.setTop (mkF m 123 #[.val (.long q0), .second, .val (.long q1), .second, .val (.long q2), .second, .val (.int p3), .val (.int (1 : Int32)), .val (.int (((p3.toUInt32 >>> ((1 : Int32) &&& 31).toUInt32).toInt32) &&& (3 : Int32))), .val (.long ((q2 &&& (3 : Int64)) - (1 : Int64))), .second, .val (.long (q0 + ((q2 &&& (3 : Int64)) - (1 : Int64)))), .second, .val .null, .val (.ref b57), .val (.int (alN q0 (q0 + ((q2 &&& (3 : Int64)) - (1 : Int64))))), .val (.long (9223372036854775807 : Int64)), .second, .unset] []))) (fun t k => XS.ifNo X59.here hx rfl (hb hby at_120) rfl ((if0 _ _).trans (flt hc60).2.2.1) k) ?_
        obtain ⟨_, _, ⟨T61, L61, k61, n61⟩, -, X61, ⟨Lc61, hQ61, l61, y61, z61⟩, st61⟩ := Jvm.LawKit.callS X59 hx (y := (⟨"java/lang/Math", "max", "(JJ)J"⟩ : MethodName)) hown (mvT hZ (hw _ (List.mem_of_getElem? (i := 47) rfl))) (mvT hZ (hw _ (List.mem_of_getElem? (i := 48) rfl))) (mvT hZ (hw _ (List.mem_of_getElem? (i := 49) rfl))) (mvT hZ (hw _ (List.mem_of_getElem? (i := 50) rfl))) (by decide) (backOf (W := 0) (rm8 l Z a0 hw [] (q0 + ((q2 &&& (3 : Int64)) - (1 : Int64))) q0  T58.heap n0 (Nat.le_trans Z0 K58.1) ) hZ (hw _ (List.mem_of_getElem? (i := 50) rfl)) (hw _ (List.mem_of_getElem? (i := 49) rfl)) (by decide) (by decide)) (g := (mkF m 126 #[.val (.long q0), .second, .val (.long q1), .second, .val (.long q2), .second, .val (.int p3), .val (.int (1 : Int32)), .val (.int (((p3.toUInt32 >>> ((1 : Int32) &&& 31).toUInt32).toInt32) &&& (3 : Int32))), .val (.long ((q2 &&& (3 : Int64)) - (1 : Int64))), .second, .val (.long (q0 + ((q2 &&& (3 : Int64)) - (1 : Int64)))), .second, .val .null, .val (.ref b57), .val (.int (alN q0 (q0 + ((q2 &&& (3 : Int64)) - (1 : Int64))))), .val (.long (9223372036854775807 : Int64)), .second, .unset] [(.long q0), (.long (q0 + ((q2 &&& (3 : Int64)) - (1 : Int64))))])) rfl (by rw [hml]; rfl) (argsL := [(.long (q0 + ((q2 &&& (3 : Int64)) - (1 : Int64)))), (.long q0)]) (rest := []) (lenOf pd_6 rfl) rfl (by show 2 * 0 + _ ≤ _; exact Nat.le_of_eq rfl) (hb hby at_126) (fun _ _ => ⟨rfl, e59, (by decide : 1 + 0 ≤ _), (by decide : 2 + 0 ≤ _)⟩)
        dsimp only [Pt.U, Pt.locs, Pt.cells, Pt.slots] at X61 l61 y61 z61 st61 hQ61
        subst l61 y61 z61
        obtain ⟨rfl, N61q, e61⟩ := hQ61
        have N61 := Fr.app N59 N61q
        obtain ⟨_, _, ⟨T62, L62, k62, n62⟩, -, X62, ⟨Lc62, hQ62, l62, y62, z62⟩, st62⟩ := Jvm.LawKit.callS X61 hx (y := (⟨"java/lang/Math", "min", "(JJ)J"⟩ : MethodName)) hown (mvT hZ (hw _ (List.mem_of_getElem? (i := 51) rfl))) (mvT hZ (hw _ (List.mem_of_getElem? (i := 52) rfl))) (mvT hZ (hw _ (List.mem_of_getElem? (i := 49) rfl))) (mvT hZ (hw _ (List.mem_of_getElem? (i := 53) rfl))) (by decide) (backOf (W := 0) (rm9 l Z a0 hw [] (mxL (q0 + ((q2 &&& (3 : Int64)) - (1 : Int64))) q0) (9223372036854775807 : Int64)  T58.heap n0 (Nat.le_trans Z0 K58.1) ) hZ (hw _ (List.mem_of_getElem? (i := 53) rfl)) (hw _ (List.mem_of_getElem? (i := 49) rfl)) (by decide) (by decide)) (g := (mkF m 131 #[.val (.long q0), .second, .val (.long q1), .second, .val (.long q2), .second, .val (.int p3), .val (.int (1 : Int32)), .val (.int (((p3.toUInt32 >>> ((1 : Int32) &&& 31).toUInt32).toInt32) &&& (3 : Int32))), .val (.long ((q2 &&& (3 : Int64)) - (1 : Int64))), .second, .val (.long (q0 + ((q2 &&& (3 : Int64)) - (1 : Int64)))), .second, .val .null, .val (.ref b57), .val (.int (alN q0 (q0 + ((q2 &&& (3 : Int64)) - (1 : Int64))))), .val (.long (9223372036854775807 : Int64)), .second, .unset] [(.long (9223372036854775807 : Int64)), (.long (mxL (q0 + ((q2 &&& (3 : Int64)) - (1 : Int64))) q0))])) rfl (by rw [hml]; rfl) (argsL := [(.long (mxL (q0 + ((q2 &&& (3 : Int64)) - (1 : Int64))) q0)), (.long (9223372036854775807 : Int64))]) (rest := []) (lenOf pd_6 rfl) rfl (by show 2 * 0 + _ ≤ _; exact Nat.le_of_eq rfl) (hb hby at_131) (fun _ _ => ⟨rfl, e61, (by decide : 1 + 0 ≤ _), (by decide : 2 + 0 ≤ _)⟩)
        dsimp only [Pt.U, Pt.locs, Pt.cells, Pt.slots] at X62 l62 y62 z62 st62 hQ62
        subst l62 y62 z62
        obtain ⟨rfl, N62q, e62⟩ := hQ62
        have N62 := Fr.app N61 N62q
        refine own_go (A' := (T62.setTop (mkF m 137 #[.val (.long q0), .second, .val (.long q1), .second, .val (.long q2), .second, .val (.int p3), .val (.int (1 : Int32)), .val (.int (((p3.toUInt32 >>> ((1 : Int32) &&& 31).toUInt32).toInt32) &&& (3 : Int32))), .val (.long ((q2 &&& (3 : Int64)) - (1 : Int64))), .second, .val (.long (q0 + ((q2 &&& (3 : Int64)) - (1 : Int64)))), .second, .val .null, .val (.ref b57), .val (.int (alN q0 (q0 + ((q2 &&& (3 : Int64)) - (1 : Int64))))), .val (.long (9223372036854775807 : Int64)), .second, .unset] [(.int (lcmpW (mnL (mxL (q0 + ((q2 &&& (3 : Int64)) - (1 : Int64))) q0) (9223372036854775807 : Int64)) (q0 + ((q2 &&& (3 : Int64)) - (1 : Int64)))))]))) (fun t k => ?_) ?_
        · show Steps p.tables e below (T59.setTop (mkF m 123 #[.val (.long q0), .second, .val (.long q1), .second, .val (.long q2), .second, .val (.int p3), .val (.int (1 : Int32)), .val (.int (((p3.toUInt32 >>> ((1 : Int32) &&& 31).toUInt32).toInt32) &&& (3 : Int32))), .val (.long ((q2 &&& (3 : Int64)) - (1 : Int64))), .second, .val (.long (q0 + ((q2 &&& (3 : Int64)) - (1 : Int64)))), .second, .val .null, .val (.ref b57), .val (.int (alN q0 (q0 + ((q2 &&& (3 : Int64)) - (1 : Int64))))), .val (.long (9223372036854775807 : Int64)), .second, .unset] [])) _
          refine XS.lload X59.here hx rfl (hb hby at_123) rfl ?_
          show Steps p.tables e below (T59.setTop (mkF m 125 #[.val (.long q0), .second, .val (.long q1), .second, .val (.long q2), .second, .val (.int p3), .val (.int (1 : Int32)), .val (.int (((p3.toUInt32 >>> ((1 : Int32) &&& 31).toUInt32).toInt32) &&& (3 : Int32))), .val (.long ((q2 &&& (3 : Int64)) - (1 : Int64))), .second, .val (.long (q0 + ((q2 &&& (3 : Int64)) - (1 : Int64)))), .second, .val .null, .val (.ref b57), .val (.int (alN q0 (q0 + ((q2 &&& (3 : Int64)) - (1 : Int64))))), .val (.long (9223372036854775807 : Int64)), .second, .unset] [(.long (q0 + ((q2 &&& (3 : Int64)) - (1 : Int64))))])) _
          refine XS.lloadN X59.here hx rfl (hb hby at_125) rfl ?_
          show Steps p.tables e below (T59.setTop (mkF m 126 #[.val (.long q0), .second, .val (.long q1), .second, .val (.long q2), .second, .val (.int p3), .val (.int (1 : Int32)), .val (.int (((p3.toUInt32 >>> ((1 : Int32) &&& 31).toUInt32).toInt32) &&& (3 : Int32))), .val (.long ((q2 &&& (3 : Int64)) - (1 : Int64))), .second, .val (.long (q0 + ((q2 &&& (3 : Int64)) - (1 : Int64)))), .second, .val .null, .val (.ref b57), .val (.int (alN q0 (q0 + ((q2 &&& (3 : Int64)) - (1 : Int64))))), .val (.long (9223372036854775807 : Int64)), .second, .unset] [(.long q0), (.long (q0 + ((q2 &&& (3 : Int64)) - (1 : Int64))))])) _
          refine st61 _ ?_
          show Steps p.tables e below (T61.setTop (mkF m 129 #[.val (.long q0), .second, .val (.long q1), .second, .val (.long q2), .second, .val (.int p3), .val (.int (1 : Int32)), .val (.int (((p3.toUInt32 >>> ((1 : Int32) &&& 31).toUInt32).toInt32) &&& (3 : Int32))), .val (.long ((q2 &&& (3 : Int64)) - (1 : Int64))), .second, .val (.long (q0 + ((q2 &&& (3 : Int64)) - (1 : Int64)))), .second, .val .null, .val (.ref b57), .val (.int (alN q0 (q0 + ((q2 &&& (3 : Int64)) - (1 : Int64))))), .val (.long (9223372036854775807 : Int64)), .second, .unset] [(.long (mxL (q0 + ((q2 &&& (3 : Int64)) - (1 : Int64))) q0))])) _
          refine XS.lload X61.here hx rfl (hb hby at_129) rfl ?_
          show Steps p.tables e below (T61.setTop (mkF m 131 #[.val (.long q0), .second, .val (.long q1), .second, .val (.long q2), .second, .val (.int p3), .val (.int (1 : Int32)), .val (.int (((p3.toUInt32 >>> ((1 : Int32) &&& 31).toUInt32).toInt32) &&& (3 : Int32))), .val (.long ((q2 &&& (3 : Int64)) - (1 : Int64))), .second, .val (.long (q0 + ((q2 &&& (3 : Int64)) - (1 : Int64)))), .second, .val .null, .val (.ref b57), .val (.int (alN q0 (q0 + ((q2 &&& (3 : Int64)) - (1 : Int64))))), .val (.long (9223372036854775807 : Int64)), .second, .unset] [(.long (9223372036854775807 : Int64)), (.long (mxL (q0 + ((q2 &&& (3 : Int64)) - (1 : Int64))) q0))])) _
          refine st62 _ ?_
          show Steps p.tables e below (T62.setTop (mkF m 134 #[.val (.long q0), .second, .val (.long q1), .second, .val (.long q2), .second, .val (.int p3), .val (.int (1 : Int32)), .val (.int (((p3.toUInt32 >>> ((1 : Int32) &&& 31).toUInt32).toInt32) &&& (3 : Int32))), .val (.long ((q2 &&& (3 : Int64)) - (1 : Int64))), .second, .val (.long (q0 + ((q2 &&& (3 : Int64)) - (1 : Int64)))), .second, .val .null, .val (.ref b57), .val (.int (alN q0 (q0 + ((q2 &&& (3 : Int64)) - (1 : Int64))))), .val (.long (9223372036854775807 : Int64)), .second, .unset] [(.long (mnL (mxL (q0 + ((q2 &&& (3 : Int64)) - (1 : Int64))) q0) (9223372036854775807 : Int64)))])) _
          refine XS.lload X62.here hx rfl (hb hby at_134) rfl ?_
          show Steps p.tables e below (T62.setTop (mkF m 136 #[.val (.long q0), .second, .val (.long q1), .second, .val (.long q2), .second, .val (.int p3), .val (.int (1 : Int32)), .val (.int (((p3.toUInt32 >>> ((1 : Int32) &&& 31).toUInt32).toInt32) &&& (3 : Int32))), .val (.long ((q2 &&& (3 : Int64)) - (1 : Int64))), .second, .val (.long (q0 + ((q2 &&& (3 : Int64)) - (1 : Int64)))), .second, .val .null, .val (.ref b57), .val (.int (alN q0 (q0 + ((q2 &&& (3 : Int64)) - (1 : Int64))))), .val (.long (9223372036854775807 : Int64)), .second, .unset] [(.long (q0 + ((q2 &&& (3 : Int64)) - (1 : Int64)))), (.long (mnL (mxL (q0 + ((q2 &&& (3 : Int64)) - (1 : Int64))) q0) (9223372036854775807 : Int64)))])) _
          refine XS.lcmp X62.here hx rfl (hb hby at_136) rfl ?_
          exact k
        by_cases hc63 : (lcmpW (mnL (mxL (q0 + ((q2 &&& (3 : Int64)) - (1 : Int64))) q0) (9223372036854775807 : Int64)) (q0 + ((q2 &&& (3 : Int64)) - (1 : Int64)))) = (0 : Int32)
        · -- hc63: yes
          refine own_go (A' := (T62.setTop (mkF m 140 #[.val (.long q0), .second, .val (.long q1), .second, .val (.long q2), .second, .val (.int p3), .val (.int (1 : Int32)), .val (.int (((p3.toUInt32 >>> ((1 : Int32) &&& 31).toUInt32).toInt32) &&& (3 : Int32))), .val (.long ((q2 &&& (3 : Int64)) - (1 : Int64))), .second, .val (.long (q0 + ((q2 &&& (3 : Int64)) - (1 : Int64)))), .second, .val .null, .val (.ref b57), .val (.int (alN q0 (q0 + ((q2 &&& (3 : Int64)) - (1 : Int64))))), .val (.long (9223372036854775807 : Int64)), .second, .unset] []))) (fun t k => XS.ifNo X62.here hx rfl (hb hby at_137) rfl ((if0 _ _).trans (teq hc63).2) k) ?_
          refine own_go (A' := (T62.setTop (mkF m 151 #[.val (.long q0), .second, .val (.long q1), .second, .val (.long q2), .second, .val (.int p3), .val (.int (1 : Int32)), .val (.int (((p3.toUInt32 >>> ((1 : Int32) &&& 31).toUInt32).toInt32) &&& (3 : Int32))), .val (.long ((q2 &&& (3 : Int64)) - (1 : Int64))), .second, .val (.long (q0 + ((q2 &&& (3 : Int64)) - (1 : Int64)))), .second, .val .null, .val (.ref b57), .val (.int (alN q0 (q0 + ((q2 &&& (3 : Int64)) - (1 : Int64))))), .val (.long (9223372036854775807 : Int64)), .second, .val (.int (1 : Int32))] [(.int (1 : Int32)), (.int (alN q0 (q0 + ((q2 &&& (3 : Int64)) - (1 : Int64)))))]))) (fun t k => ?_) ?_
          · show Steps p.tables e below (T62.setTop (mkF m 140 #[.val (.long q0), .second, .val (.long q1), .second, .val (.long q2), .second, .val (.int p3), .val (.int (1 : Int32)), .val (.int (((p3.toUInt32 >>> ((1 : Int32) &&& 31).toUInt32).toInt32) &&& (3 : Int32))), .val (.long ((q2 &&& (3 : Int64)) - (1 : Int64))), .second, .val (.long (q0 + ((q2 &&& (3 : Int64)) - (1 : Int64)))), .second, .val .null, .val (.ref b57), .val (.int (alN q0 (q0 + ((q2 &&& (3 : Int64)) - (1 : Int64))))), .val (.long (9223372036854775807 : Int64)), .second, .unset] [])) _
            refine XS.iconst X62.here hx rfl (hb hby at_140) ?_
            show Steps p.tables e below (T62.setTop (mkF m 141 #[.val (.long q0), .second, .val (.long q1), .second, .val (.long q2), .second, .val (.int p3), .val (.int (1 : Int32)), .val (.int (((p3.toUInt32 >>> ((1 : Int32) &&& 31).toUInt32).toInt32) &&& (3 : Int32))), .val (.long ((q2 &&& (3 : Int64)) - (1 : Int64))), .second, .val (.long (q0 + ((q2 &&& (3 : Int64)) - (1 : Int64)))), .second, .val .null, .val (.ref b57), .val (.int (alN q0 (q0 + ((q2 &&& (3 : Int64)) - (1 : Int64))))), .val (.long (9223372036854775807 : Int64)), .second, .unset] [(.int (1 : Int32))])) _
            refine XS.goto X62.here hx rfl (pc0 := 141) (pc' := 145) rfl (hb hby at_141) (by decide) (by decide) ?_
            show Steps p.tables e below (T62.setTop (mkF m 145 #[.val (.long q0), .second, .val (.long q1), .second, .val (.long q2), .second, .val (.int p3), .val (.int (1 : Int32)), .val (.int (((p3.toUInt32 >>> ((1 : Int32) &&& 31).toUInt32).toInt32) &&& (3 : Int32))), .val (.long ((q2 &&& (3 : Int64)) - (1 : Int64))), .second, .val (.long (q0 + ((q2 &&& (3 : Int64)) - (1 : Int64)))), .second, .val .null, .val (.ref b57), .val (.int (alN q0 (q0 + ((q2 &&& (3 : Int64)) - (1 : Int64))))), .val (.long (9223372036854775807 : Int64)), .second, .unset] [(.int (1 : Int32))])) _
            refine XS.istore X62.here hx rfl (hb hby at_145) rfl (l' := #[.val (.long q0), .second, .val (.long q1), .second, .val (.long q2), .second, .val (.int p3), .val (.int (1 : Int32)), .val (.int (((p3.toUInt32 >>> ((1 : Int32) &&& 31).toUInt32).toInt32) &&& (3 : Int32))), .val (.long ((q2 &&& (3 : Int64)) - (1 : Int64))), .second, .val (.long (q0 + ((q2 &&& (3 : Int64)) - (1 : Int64)))), .second, .val .null, .val (.ref b57), .val (.int (alN q0 (q0 + ((q2 &&& (3 : Int64)) - (1 : Int64))))), .val (.long (9223372036854775807 : Int64)), .second, .val (.int (1 : Int32))]) rfl ?_
            show Steps p.tables e below (T62.setTop (mkF m 147 #[.val (.long q0), .second, .val (.long q1), .second, .val (.long q2), .second, .val (.int p3), .val (.int (1 : Int32)), .val (.int (((p3.toUInt32 >>> ((1 : Int32) &&& 31).toUInt32).toInt32) &&& (3 : Int32))), .val (.long ((q2 &&& (3 : Int64)) - (1 : Int64))), .second, .val (.long (q0 + ((q2 &&& (3 : Int64)) - (1 : Int64)))), .second, .val .null, .val (.ref b57), .val (.int (alN q0 (q0 + ((q2 &&& (3 : Int64)) - (1 : Int64))))), .val (.long (9223372036854775807 : Int64)), .second, .val (.int (1 : Int32))] [])) _
            refine XS.iload X62.here hx rfl (hb hby at_147) rfl ?_
            show Steps p.tables e below (T62.setTop (mkF m 149 #[.val (.long q0), .second, .val (.long q1), .second, .val (.long q2), .second, .val (.int p3), .val (.int (1 : Int32)), .val (.int (((p3.toUInt32 >>> ((1 : Int32) &&& 31).toUInt32).toInt32) &&& (3 : Int32))), .val (.long ((q2 &&& (3 : Int64)) - (1 : Int64))), .second, .val (.long (q0 + ((q2 &&& (3 : Int64)) - (1 : Int64)))), .second, .val .null, .val (.ref b57), .val (.int (alN q0 (q0 + ((q2 &&& (3 : Int64)) - (1 : Int64))))), .val (.long (9223372036854775807 : Int64)), .second, .val (.int (1 : Int32))] [(.int (alN q0 (q0 + ((q2 &&& (3 : Int64)) - (1 : Int64)))))])) _
            refine XS.iload X62.here hx rfl (hb hby at_149) rfl ?_
            exact k
          refine own_go (A' := (T62.setTop (mkF m 154 #[.val (.long q0), .second, .val (.long q1), .second, .val (.long q2), .second, .val (.int p3), .val (.int (1 : Int32)), .val (.int (((p3.toUInt32 >>> ((1 : Int32) &&& 31).toUInt32).toInt32) &&& (3 : Int32))), .val (.long ((q2 &&& (3 : Int64)) - (1 : Int64))), .second, .val (.long (q0 + ((q2 &&& (3 : Int64)) - (1 : Int64)))), .second, .val .null, .val (.ref b57), .val (.int (alN q0 (q0 + ((q2 &&& (3 : Int64)) - (1 : Int64))))), .val (.long (9223372036854775807 : Int64)), .second, .val (.int (1 : Int32))] []))) (fun t k => XS.icmpNo X62.here hx rfl (hb hby at_151) rfl (teq ((own_alN _ _).trans (own_B hc60 hc63))).2 k) ?_
          refine own_go (A' := (T62.setTop (mkF m 159 #[.val (.long q0), .second, .val (.long q1), .second, .val (.long q2), .second, .val (.int p3), .val (.int (1 : Int32)), .val (.int (((p3.toUInt32 >>> ((1 : Int32) &&& 31).toUInt32).toInt32) &&& (3 : Int32))), .val (.long ((q2 &&& (3 : Int64)) - (1 : Int64))), .second, .val (.long (q0 + ((q2 &&& (3 : Int64)) - (1 : Int64)))), .second, .val .null, .val (.ref b57), .val (.int (alN q0 (q0 + ((q2 &&& (3 : Int64)) - (1 : Int64))))), .val (.long (9223372036854775807 : Int64)), .second, .val (.int (1 : Int32))] [(.int (1 : Int32))]))) (fun t k => ?_) ?_
          · show Steps p.tables e below (T62.setTop (mkF m 154 #[.val (.long q0), .second, .val (.long q1), .second, .val (.long q2), .second, .val (.int p3), .val (.int (1 : Int32)), .val (.int (((p3.toUInt32 >>> ((1 : Int32) &&& 31).toUInt32).toInt32) &&& (3 : Int32))), .val (.long ((q2 &&& (3 : Int64)) - (1 : Int64))), .second, .val (.long (q0 + ((q2 &&& (3 : Int64)) - (1 : Int64)))), .second, .val .null, .val (.ref b57), .val (.int (alN q0 (q0 + ((q2 &&& (3 : Int64)) - (1 : Int64))))), .val (.long (9223372036854775807 : Int64)), .second, .val (.int (1 : Int32))] [])) _
            refine XS.iconst X62.here hx rfl (hb hby at_154) ?_
            show Steps p.tables e below (T62.setTop (mkF m 155 #[.val (.long q0), .second, .val (.long q1), .second, .val (.long q2), .second, .val (.int p3), .val (.int (1 : Int32)), .val (.int (((p3.toUInt32 >>> ((1 : Int32) &&& 31).toUInt32).toInt32) &&& (3 : Int32))), .val (.long ((q2 &&& (3 : Int64)) - (1 : Int64))), .second, .val (.long (q0 + ((q2 &&& (3 : Int64)) - (1 : Int64)))), .second, .val .null, .val (.ref b57), .val (.int (alN q0 (q0 + ((q2 &&& (3 : Int64)) - (1 : Int64))))), .val (.long (9223372036854775807 : Int64)), .second, .val (.int (1 : Int32))] [(.int (1 : Int32))])) _
            refine XS.goto X62.here hx rfl (pc0 := 155) (pc' := 159) rfl (hb hby at_155) (by decide) (by decide) ?_
            exact k
          obtain ⟨fs, hr, hrun, hended, hW, hsame⟩ := X62.leave (v := some (.int (1 : Int32))) (fun h => by rw [Bd.returns] at h; cases h) hlk
          refine ⟨_, _, ?_, hrun, hended, _, _, rfl, ?_, ⟨_, rfl⟩, hW, hsame.mono (by decide) (by decide)⟩
          · show Steps p.tables e below (T62.setTop (mkF m 159 #[.val (.long q0), .second, .val (.long q1), .second, .val (.long q2), .second, .val (.int p3), .val (.int (1 : Int32)), .val (.int (((p3.toUInt32 >>> ((1 : Int32) &&& 31).toUInt32).toInt32) &&& (3 : Int32))), .val (.long ((q2 &&& (3 : Int64)) - (1 : Int64))), .second, .val (.long (q0 + ((q2 &&& (3 : Int64)) - (1 : Int64)))), .second, .val .null, .val (.ref b57), .val (.int (alN q0 (q0 + ((q2 &&& (3 : Int64)) - (1 : Int64))))), .val (.long (9223372036854775807 : Int64)), .second, .val (.int (1 : Int32))] [(.int (1 : Int32))])) _
            exact retN X62 hx (t := .boolean) Bd.returns (by simp) (hb hby at_159) hr
          · show Q0 Z q0 q1 q2 p3 wC clC h0 n0 _ T62.heap _
            exact ⟨rfl, N62⟩
        · -- hc63: no
          refine own_go (A' := (T62.setTop (mkF m 144 #[.val (.long q0), .second, .val (.long q1), .second, .val (.long q2), .second, .val (.int p3), .val (.int (1 : Int32)), .val (.int (((p3.toUInt32 >>> ((1 : Int32) &&& 31).toUInt32).toInt32) &&& (3 : Int32))), .val (.long ((q2 &&& (3 : Int64)) - (1 : Int64))), .second, .val (.long (q0 + ((q2 &&& (3 : Int64)) - (1 : Int64)))), .second, .val .null, .val (.ref b57), .val (.int (alN q0 (q0 + ((q2 &&& (3 : Int64)) - (1 : Int64))))), .val (.long (9223372036854775807 : Int64)), .second, .unset] []))) (fun t k => XS.ifYes X62.here hx rfl (pc0 := 137) (pc' := 144) rfl (hb hby at_137) rfl ((if0 _ _).trans (feq hc63).2) (by decide) (by decide) k) ?_
          refine own_go (A' := (T62.setTop (mkF m 151 #[.val (.long q0), .second, .val (.long q1), .second, .val (.long q2), .second, .val (.int p3), .val (.int (1 : Int32)), .val (.int (((p3.toUInt32 >>> ((1 : Int32) &&& 31).toUInt32).toInt32) &&& (3 : Int32))), .val (.long ((q2 &&& (3 : Int64)) - (1 : Int64))), .second, .val (.long (q0 + ((q2 &&& (3 : Int64)) - (1 : Int64)))), .second, .val .null, .val (.ref b57), .val (.int (alN q0 (q0 + ((q2 &&& (3 : Int64)) - (1 : Int64))))), .val (.long (9223372036854775807 : Int64)), .second, .val (.int (0 : Int32))] [(.int (0 : Int32)), (.int (alN q0 (q0 + ((q2 &&& (3 : Int64)) - (1 : Int64)))))]))) (fun t k => ?_) ?_
          · show Steps p.tables e below (T62.setTop (mkF m 144 #[.val (.long q0), .second, .val (.long q1), .second, .val (.long q2), .second, .val (.int p3), .val (.int (1 : Int32)), .val (.int (((p3.toUInt32 >>> ((1 : Int32) &&& 31).toUInt32).toInt32) &&& (3 : Int32))), .val (.long ((q2 &&& (3 : Int64)) - (1 : Int64))), .second, .val (.long (q0 + ((q2 &&& (3 : Int64)) - (1 : Int64)))), .second, .val .null, .val (.ref b57), .val (.int (alN q0 (q0 + ((q2 &&& (3 : Int64)) - (1 : Int64))))), .val (.long (9223372036854775807 : Int64)), .second, .unset] [])) _
            refine XS.iconst X62.here hx rfl (hb hby at_144) ?_
            show Steps p.tables e below (T62.setTop (mkF m 145 #[.val (.long q0), .second, .val (.long q1), .second, .val (.long q2), .second, .val (.int p3), .val (.int (1 : Int32)), .val (.int (((p3.toUInt32 >>> ((1 : Int32) &&& 31).toUInt32).toInt32) &&& (3 : Int32))), .val (.long ((q2 &&& (3 : Int64)) - (1 : Int64))), .second, .val (.long (q0 + ((q2 &&& (3 : Int64)) - (1 : Int64)))), .second, .val .null, .val (.ref b57), .val (.int (alN q0 (q0 + ((q2 &&& (3 : Int64)) - (1 : Int64))))), .val (.long (9223372036854775807 : Int64)), .second, .unset] [(.int (0 : Int32))])) _
            refine XS.istore X62.here hx rfl (hb hby at_145) rfl (l' := #[.val (.long q0), .second, .val (.long q1), .second, .val (.long q2), .second, .val (.int p3), .val (.int (1 : Int32)), .val (.int (((p3.toUInt32 >>> ((1 : Int32) &&& 31).toUInt32).toInt32) &&& (3 : Int32))), .val (.long ((q2 &&& (3 : Int64)) - (1 : Int64))), .second, .val (.long (q0 + ((q2 &&& (3 : Int64)) - (1 : Int64)))), .second, .val .null, .val (.ref b57), .val (.int (alN q0 (q0 + ((q2 &&& (3 : Int64)) - (1 : Int64))))), .val (.long (9223372036854775807 : Int64)), .second, .val (.int (0 : Int32))]) rfl ?_
            show Steps p.tables e below (T62.setTop (mkF m 147 #[.val (.long q0), .second, .val (.long q1), .second, .val (.long q2), .second, .val (.int p3), .val (.int (1 : Int32)), .val (.int (((p3.toUInt32 >>> ((1 : Int32) &&& 31).toUInt32).toInt32) &&& (3 : Int32))), .val (.long ((q2 &&& (3 : Int64)) - (1 : Int64))), .second, .val (.long (q0 + ((q2 &&& (3 : Int64)) - (1 : Int64)))), .second, .val .null, .val (.ref b57), .val (.int (alN q0 (q0 + ((q2 &&& (3 : Int64)) - (1 : Int64))))), .val (.long (9223372036854775807 : Int64)), .second, .val (.int (0 : Int32))] [])) _
            refine XS.iload X62.here hx rfl (hb hby at_147) rfl ?_
            show Steps p.tables e below (T62.setTop (mkF m 149 #[.val (.long q0), .second, .val (.long q1), .second, .val (.long q2), .second, .val (.int p3), .val (.int (1 : Int32)), .val (.int (((p3.toUInt32 >>> ((1 : Int32) &&& 31).toUInt32).toInt32) &&& (3 : Int32))), .val (.long ((q2 &&& (3 : Int64)) - (1 : Int64))), .second, .val (.long (q0 + ((q2 &&& (3 : Int64)) - (1 : Int64)))), .second, .val .null, .val (.ref b57), .val (.int (alN q0 (q0 + ((q2 &&& (3 : Int64)) - (1 : Int64))))), .val (.long (9223372036854775807 : Int64)), .second, .val (.int (0 : Int32))] [(.int (alN q0 (q0 + ((q2 &&& (3 : Int64)) - (1 : Int64)))))])) _
            refine XS.iload X62.here hx rfl (hb hby at_149) rfl ?_
            exact k
          refine own_go (A' := (T62.setTop (mkF m 154 #[.val (.long q0), .second, .val (.long q1), .second, .val (.long q2), .second, .val (.int p3), .val (.int (1 : Int32)), .val (.int (((p3.toUInt32 >>> ((1 : Int32) &&& 31).toUInt32).toInt32) &&& (3 : Int32))), .val (.long ((q2 &&& (3 : Int64)) - (1 : Int64))), .second, .val (.long (q0 + ((q2 &&& (3 : Int64)) - (1 : Int64)))), .second, .val .null, .val (.ref b57), .val (.int (alN q0 (q0 + ((q2 &&& (3 : Int64)) - (1 : Int64))))), .val (.long (9223372036854775807 : Int64)), .second, .val (.int (0 : Int32))] []))) (fun t k => XS.icmpNo X62.here hx rfl (hb hby at_151) rfl (teq ((own_alN _ _).trans (own_C hc60 hc63))).2 k) ?_
          refine own_go (A' := (T62.setTop (mkF m 159 #[.val (.long q0), .second, .val (.long q1), .second, .val (.long q2), .second, .val (.int p3), .val (.int (1 : Int32)), .val (.int (((p3.toUInt32 >>> ((1 : Int32) &&& 31).toUInt32).toInt32) &&& (3 : Int32))), .val (.long ((q2 &&& (3 : Int64)) - (1 : Int64))), .second, .val (.long (q0 + ((q2 &&& (3 : Int64)) - (1 : Int64)))), .second, .val .null, .val (.ref b57), .val (.int (alN q0 (q0 + ((q2 &&& (3 : Int64)) - (1 : Int64))))), .val (.long (9223372036854775807 : Int64)), .second, .val (.int (0 : Int32))] [(.int (1 : Int32))]))) (fun t k => ?_) ?_
          · show Steps p.tables e below (T62.setTop (mkF m 154 #[.val (.long q0), .second, .val (.long q1), .second, .val (.long q2), .second, .val (.int p3), .val (.int (1 : Int32)), .val (.int (((p3.toUInt32 >>> ((1 : Int32) &&& 31).toUInt32).toInt32) &&& (3 : Int32))), .val (.long ((q2 &&& (3 : Int64)) - (1 : Int64))), .second, .val (.long (q0 + ((q2 &&& (3 : Int64)) - (1 : Int64)))), .second, .val .null, .val (.ref b57), .val (.int (alN q0 (q0 + ((q2 &&& (3 : Int64)) - (1 : Int64))))), .val (.long (9223372036854775807 : Int64)), .second, .val (.int (0 : Int32))] [])) _
            refine XS.iconst X62.here hx rfl (hb hby at_154) ?_
            show Steps p.tables e below (T62.setTop (mkF m 155 #[.val (.long q0), .second, .val (.long q1), .second, .val (.long q2), .second, .val (.int p3), .val (.int (1 : Int32)), .val (.int (((p3.toUInt32 >>> ((1 : Int32) &&& 31).toUInt32).toInt32) &&& (3 : Int32))), .val (.long ((q2 &&& (3 : Int64)) - (1 : Int64))), .second, .val (.long (q0 + ((q2 &&& (3 : Int64)) - (1 : Int64)))), .second, .val .null, .val (.ref b57), .val (.int (alN q0 (q0 + ((q2 &&& (3 : Int64)) - (1 : Int64))))), .val (.long (9223372036854775807 : Int64)), .second, .val (.int (0 : Int32))] [(.int (1 : Int32))])) _
            refine XS.goto X62.here hx rfl (pc0 := 155) (pc' := 159) rfl (hb hby at_155) (by decide) (by decide) ?_
            exact k
          obtain ⟨fs, hr, hrun, hended, hW, hsame⟩ := X62.leave (v := some (.int (1 : Int32))) (fun h => by rw [Bd.returns] at h; cases h) hlk
          refine ⟨_, _, ?_, hrun, hended, _, _, rfl, ?_, ⟨_, rfl⟩, hW, hsame.mono (by decide) (by decide)⟩
          · show Steps p.tables e below (T62.setTop (mkF m 159 #[.val (.long q0), .second, .val (.long q1), .second, .val (.long q2), .second, .val (.int p3), .val (.int (1 : Int32)), .val (.int (((p3.toUInt32 >>> ((1 : Int32) &&& 31).toUInt32).toInt32) &&& (3 : Int32))), .val (.long ((q2 &&& (3 : Int64)) - (1 : Int64))), .second, .val (.long (q0 + ((q2 &&& (3 : Int64)) - (1 : Int64)))), .second, .val .null, .val (.ref b57), .val (.int (alN q0 (q0 + ((q2 &&& (3 : Int64)) - (1 : Int64))))), .val (.long (9223372036854775807 : Int64)), .second, .val (.int (0 : Int32))] [(.int (1 : Int32))])) _
            exact retN X62 hx (t := .boolean) Bd.returns (by simp) (hb hby at_159) hr
          · show Q0 Z q0 q1 q2 p3 wC clC h0 n0 _ T62.heap _
            exact ⟨rfl, N62⟩
    · -- hc56: no
      refine own_go (A' := (s₁.setTop (mkF m 47 #[.val (.long q0), .second, .val (.long q1), .second, .val (.long q2), .second, .val (.int p3), .val (.int (1 : Int32)), .val (.int (((p3.toUInt32 >>> ((1 : Int32) &&& 31).toUInt32).toInt32) &&& (3 : Int32))), .val (.long ((q2 &&& (3 : Int64)) - (1 : Int64))), .second, .unset, .unset, .unset, .unset, .unset, .unset, .unset, .unset] []))) (fun t k => XS.icmpYes X0.here hx rfl (pc0 := 35) (pc' := 47) rfl (hb hby at_35) rfl (feq hc56).2 (by decide) (by decide) k) ?_
      refine own_go (A' := (s₁.setTop (mkF m 50 #[.val (.long q0), .second, .val (.long q1), .second, .val (.long q2), .second, .val (.int p3), .val (.int (1 : Int32)), .val (.int (((p3.toUInt32 >>> ((1 : Int32) &&& 31).toUInt32).toInt32) &&& (3 : Int32))), .val (.long ((q2 &&& (3 : Int64)) - (1 : Int64))), .second, .unset, .unset, .unset, .unset, .unset, .unset, .unset, .unset] [(.int (2 : Int32)), (.int (((p3.toUInt32 >>> ((1 : Int32) &&& 31).toUInt32).toInt32) &&& (3 : Int32)))]))) (fun t k => ?_) ?_
      · show Steps p.tables e below (s₁.setTop (mkF m 47 #[.val (.long q0), .second, .val (.long q1), .second, .val (.long q2), .second, .val (.int p3), .val (.int (1 : Int32)), .val (.int (((p3.toUInt32 >>> ((1 : Int32) &&& 31).toUInt32).toInt32) &&& (3 : Int32))), .val (.long ((q2 &&& (3 : Int64)) - (1 : Int64))), .second, .unset, .unset, .unset, .unset, .unset, .unset, .unset, .unset] [])) _
        refine XS.iload X0.here hx rfl (hb hby at_47) rfl ?_
        show Steps p.tables e below (s₁.setTop (mkF m 49 #[.val (.long q0), .second, .val (.long q1), .second, .val (.long q2), .second, .val (.int p3), .val (.int (1 : Int32)), .val (.int (((p3.toUInt32 >>> ((1 : Int32) &&& 31).toUInt32).toInt32) &&& (3 : Int32))), .val (.long ((q2 &&& (3 : Int64)) - (1 : Int64))), .second, .unset, .unset, .unset, .unset, .unset, .unset, .unset, .unset] [(.int (((p3.toUInt32 >>> ((1 : Int32) &&& 31).toUInt32).toInt32) &&& (3 : Int32)))])) _
        refine XS.iconst X0.here hx rfl (hb hby at_49) ?_
        exact k
      by_cases hc64 : (((p3.toUInt32 >>> ((1 : Int32) &&& 31).toUInt32).toInt32) &&& (3 : Int32)) = (2 : Int32)
      · -- hc64: yes
        refine own_go (A' := (s₁.setTop (mkF m 53 #[.val (.long q0), .second, .val (.long q1), .second, .val (.long q2), .second, .val (.int p3), .val (.int (1 : Int32)), .val (.int (((p3.toUInt32 >>> ((1 : Int32) &&& 31).toUInt32).toInt32) &&& (3 : Int32))), .val (.long ((q2 &&& (3 : Int64)) - (1 : Int64))), .second, .unset, .unset, .unset, .unset, .unset, .unset, .unset, .unset] []))) (fun t k => XS.icmpNo X0.here hx rfl (hb hby at_50) rfl (teq hc64).2 k) ?_
        refine own_go (A' := (s₁.setTop (mkF m 68 #[.val (.long q0), .second, .val (.long q1), .second, .val (.long q2), .second, .val (.int p3), .val (.int (1 : Int32)), .val (.int (((p3.toUInt32 >>> ((1 : Int32) &&& 31).toUInt32).toInt32) &&& (3 : Int32))), .val (.long ((q2 &&& (3 : Int64)) - (1 : Int64))), .second, .val (.long (q1 + ((q2 &&& (3 : Int64)) - (1 : Int64)))), .second, .unset, .unset, .unset, .unset, .unset, .unset] [(.int (1 : Int32))]))) (fun t k => ?_) ?_
        · show Steps p.tables e below (s₁.setTop (mkF m 53 #[.val (.long q0), .second, .val (.long q1), .second, .val (.long q2), .second, .val (.int p3), .val (.int (1 : Int32)), .val (.int (((p3.toUInt32 >>> ((1 : Int32) &&& 31).toUInt32).toInt32) &&& (3 : Int32))), .val (.long ((q2 &&& (3 : Int64)) - (1 : Int64))), .second, .unset, .unset, .unset, .unset, .unset, .unset, .unset, .unset] [])) _
          refine XS.lloadN X0.here hx rfl (hb hby at_53) rfl ?_
          show Steps p.tables e below (s₁.setTop (mkF m 54 #[.val (.long q0), .second, .val (.long q1), .second, .val (.long q2), .second, .val (.int p3), .val (.int (1 : Int32)), .val (.int (((p3.toUInt32 >>> ((1 : Int32) &&& 31).toUInt32).toInt32) &&& (3 : Int32))), .val (.long ((q2 &&& (3 : Int64)) - (1 : Int64))), .second, .unset, .unset, .unset, .unset, .unset, .unset, .unset, .unset] [(.long q1)])) _
          refine XS.lload X0.here hx rfl (hb hby at_54) rfl ?_
          show Steps p.tables e below (s₁.setTop (mkF m 56 #[.val (.long q0), .second, .val (.long q1), .second, .val (.long q2), .second, .val (.int p3), .val (.int (1 : Int32)), .val (.int (((p3.toUInt32 >>> ((1 : Int32) &&& 31).toUInt32).toInt32) &&& (3 : Int32))), .val (.long ((q2 &&& (3 : Int64)) - (1 : Int64))), .second, .unset, .unset, .unset, .unset, .unset, .unset, .unset, .unset] [(.long ((q2 &&& (3 : Int64)) - (1 : Int64))), (.long q1)])) _
          refine XS.ladd X0.here hx rfl (hb hby at_56) rfl ?_
          show Steps p.tables e below (s₁.setTop (mkF m 57 #[.val (.long q0), .second, .val (.long q1), .second, .val (.long q2), .second, .val (.int p3), .val (.int (1 : Int32)), .val (.int (((p3.toUInt32 >>> ((1 : Int32) &&& 31).toUInt32).toInt32) &&& (3 : Int32))), .val (.long ((q2 &&& (3 : Int64)) - (1 : Int64))), .second, .unset, .unset, .unset, .unset, .unset, .unset, .unset, .unset] [(.long (q1 + ((q2 &&& (3 : Int64)) - (1 : Int64))))])) _
          refine XS.lstore X0.here hx rfl (hb hby at_57) rfl (l' := #[.val (.long q0), .second, .val (.long q1), .second, .val (.long q2), .second, .val (.int p3), .val (.int (1 : Int32)), .val (.int (((p3.toUInt32 >>> ((1 : Int32) &&& 31).toUInt32).toInt32) &&& (3 : Int32))), .val (.long ((q2 &&& (3 : Int64)) - (1 : Int64))), .second, .val (.long (q1 + ((q2 &&& (3 : Int64)) - (1 : Int64)))), .second, .unset, .unset, .unset, .unset, .unset, .unset]) rfl ?_
          show Steps p.tables e below (s₁.setTop (mkF m 59 #[.val (.long q0), .second, .val (.long q1), .second, .val (.long q2), .second, .val (.int p3), .val (.int (1 : Int32)), .val (.int (((p3.toUInt32 >>> ((1 : Int32) &&& 31).toUInt32).toInt32) &&& (3 : Int32))), .val (.long ((q2 &&& (3 : Int64)) - (1 : Int64))), .second, .val (.long (q1 + ((q2 &&& (3 : Int64)) - (1 : Int64)))), .second, .unset, .unset, .unset, .unset, .unset, .unset] [])) _
          refine XS.goto X0.here hx rfl (pc0 := 59) (pc' := 66) rfl (hb hby at_59) (by decide) (by decide) ?_
          show Steps p.tables e below (s₁.setTop (mkF m 66 #[.val (.long q0), .second, .val (.long q1), .second, .val (.long q2), .second, .val (.int p3), .val (.int (1 : Int32)), .val (.int (((p3.toUInt32 >>> ((1 : Int32) &&& 31).toUInt32).toInt32) &&& (3 : Int32))), .val (.long ((q2 &&& (3 : Int64)) - (1 : Int64))), .second, .val (.long (q1 + ((q2 &&& (3 : Int64)) - (1 : Int64)))), .second, .unset, .unset, .unset, .unset, .unset, .unset] [])) _
          refine XS.iload X0.here hx rfl (hb hby at_66) rfl ?_
          exact k
        refine own_go (A' := (s₁.setTop (mkF m 71 #[.val (.long q0), .second, .val (.long q1), .second, .val (.long q2), .second, .val (.int p3), .val (.int (1 : Int32)), .val (.int (((p3.toUInt32 >>> ((1 : Int32) &&& 31).toUInt32).toInt32) &&& (3 : Int32))), .val (.long ((q2 &&& (3 : Int64)) - (1 : Int64))), .second, .val (.long (q1 + ((q2 &&& (3 : Int64)) - (1 : Int64)))), .second, .unset, .unset, .unset, .unset, .unset, .unset] []))) (fun t k => XS.ifNo X0.here hx rfl (hb hby at_68) rfl ((if0 _ _).trans (feq (by decide : ¬ ((1 : Int32) = (0 : Int32)))).1) k) ?_
        obtain ⟨T65, h65, X65, e65, E65, A65, D65, -, st65⟩ := newO X0 hx hZ hown (hw _ (List.mem_of_getElem? (i := 9) rfl)) (hw _ (List.mem_of_getElem? (i := 10) rfl)) (hw _ (List.mem_of_getElem? (i := 11) rfl)) e0 (g := (mkF m 81 #[.val (.long q0), .second, .val (.long q1), .second, .val (.long q2), .second, .val (.int p3), .val (.int (1 : Int32)), .val (.int (((p3.toUInt32 >>> ((1 : Int32) &&& 31).toUInt32).toInt32) &&& (3 : Int32))), .val (.long ((q2 &&& (3 : Int64)) - (1 : Int64))), .second, .val (.long (q1 + ((q2 &&& (3 : Int64)) - (1 : Int64)))), .second, .val .null, .unset, .unset, .unset, .unset, .unset] [])) rfl (hb hby at_81) (by decide) (by decide)
        obtain ⟨b65, g65⟩ : ∃ z, z = h0.size := ⟨_, rfl⟩
        have sz_b65 : h0.size ≤ b65 := Nat.le_of_eq g65.symm
        rw [← g65] at A65 D65 st65
        have K65 : Keep h0 h65 [] := (Keep.refl h0 []).ext E65
        have B65 : Ext h0 h65 := own_keep_ext K65
        have F65_min : Fld Z h65 b65 "com/example/lading/lading/core/Occurrence" "min" "J" (.long (0 : Int64)) := D65 (Or.inr (hw _ (List.mem_of_getElem? (i := 19) rfl))) (ty := .long) (by decide)
        have F65_max : Fld Z h65 b65 "com/example/lading/lading/core/Occurrence" "max" "Ljava/lang/Long;" .null := D65 (Or.inr (hw _ (List.mem_of_getElem? (i := 21) rfl))) (ty := (.object "java/lang/Long")) (by decide)
        obtain ⟨_, _, ⟨T66, L66, k66, n66⟩, -, X66, ⟨Lc66, hQ66, l66, y66, z66⟩, st66⟩ := X65.specialBack hx (y := (⟨"com/example/lading/lading/core/Occurrence", "<init>", "(JLjava/lang/Long;)V"⟩ : MethodName)) rfl hown (mvT hZ (hw _ (List.mem_of_getElem? (i := 12) rfl))) (mvT hZ (hw _ (List.mem_of_getElem? (i := 13) rfl))) (mvT hZ (hw _ (List.mem_of_getElem? (i := 14) rfl))) (by decide) (backOf (W := 1) (rm2n l Z a0 hw [] b65 q0  h65 n0 (Nat.le_trans Z0 K65.1) A65 F65_min F65_max (Nat.le_trans Z0 sz_b65)) hZ (hw _ (List.mem_of_getElem? (i := 14) rfl)) (hw _ (List.mem_of_getElem? (i := 11) rfl)) (by decide) (by decide)) (g := (mkF m 88 #[.val (.long q0), .second, .val (.long q1), .second, .val (.long q2), .second, .val (.int p3), .val (.int (1 : Int32)), .val (.int (((p3.toUInt32 >>> ((1 : Int32) &&& 31).toUInt32).toInt32) &&& (3 : Int32))), .val (.long ((q2 &&& (3 : Int64)) - (1 : Int64))), .second, .val (.long (q1 + ((q2 &&& (3 : Int64)) - (1 : Int64)))), .second, .val .null, .unset, .unset, .unset, .unset, .unset] [.null, (.long q0), (.ref b65), (.ref b65)])) rfl (by rw [hml]; rfl) (Steps.refl _) (a := b65) (argsL := [(.long q0), .null]) (rest := [(.ref b65)]) (lenOf pd_4 rfl) rfl (by show 2 * 0 + _ ≤ _; exact Nat.le_of_eq rfl) (hb hby at_88) (fun _ _ => ⟨rfl, e65, (by decide : 1 + 0 ≤ _), (by decide : 2 + 0 ≤ _)⟩)
        dsimp only [Pt.U, Pt.locs, Pt.cells, Pt.slots] at X66 l66 y66 z66 st66 hQ66
        subst l66 y66 z66
        obtain ⟨rfl, N66q, K66q, E66q, F66q, G66q⟩ := hQ66
        have N66 := Fr.app N0 N66q
        have K66 : Keep h0 T66.heap [] := K65.trans K66q (allS (Or.inr sz_b65) all0)
        have B66 : Ext h0 T66.heap := own_keep_ext K66
        obtain ⟨cq67, kq67, q67a, q67b, q67c⟩ := isOf hZ rfl E66q
        obtain ⟨_, _, ⟨T67, L67, k67, n67⟩, -, X67, ⟨Lc67, hQ67, l67, y67, z67⟩, st67⟩ := X66.virtualBack hx (y := (⟨"com/example/lading/lading/core/Occurrence", "allows", "(J)Z"⟩ : MethodName)) (z := (⟨"com/example/lading/lading/core/Occurrence", "allows", "(J)Z"⟩ : MethodName)) hown (mvT hZ (hw _ (List.mem_of_getElem? (i := 22) rfl))) (mvT hZ (hw _ (List.mem_of_getElem? (i := 23) rfl))) (notFace_of_selects (args := #[]) (mvT hZ (hw _ (List.mem_of_getElem? (i := 25) rfl)))) (mvT hZ (hw _ (List.mem_of_getElem? (i := 25) rfl))) (mvT hZ (hw _ (List.mem_of_getElem? (i := 24) rfl))) (by decide) (backOf (W := 0) (rm4n l Z a0 hw [] b65 (q1 + ((q2 &&& (3 : Int64)) - (1 : Int64))) q0 T66.heap n0 (Nat.le_trans Z0 K66.1) F66q G66q) hZ (hw _ (List.mem_of_getElem? (i := 26) rfl)) (hw _ (List.mem_of_getElem? (i := 11) rfl)) (by decide) (by decide)) q67a q67c (g := (mkF m 97 #[.val (.long q0), .second, .val (.long q1), .second, .val (.long q2), .second, .val (.int p3), .val (.int (1 : Int32)), .val (.int (((p3.toUInt32 >>> ((1 : Int32) &&& 31).toUInt32).toInt32) &&& (3 : Int32))), .val (.long ((q2 &&& (3 : Int64)) - (1 : Int64))), .second, .val (.long (q1 + ((q2 &&& (3 : Int64)) - (1 : Int64)))), .second, .val .null, .val (.ref b65), .unset, .unset, .unset, .unset] [(.long (q1 + ((q2 &&& (3 : Int64)) - (1 : Int64)))), (.ref b65)])) rfl (by rw [hml]; rfl) (Steps.refl _) (argsL := [(.long (q1 + ((q2 &&& (3 : Int64)) - (1 : Int64))))]) (rest := []) (lenOf pd_5 rfl) rfl (by show 2 * 0 + _ ≤ _; exact Nat.le_of_eq rfl) (hb hby at_97) (fun _ _ => ⟨rfl, rfl, (by decide : 1 + 0 ≤ _), (by decide : 2 + 0 ≤ _)⟩)
        dsimp only [Pt.U, Pt.locs, Pt.cells, Pt.slots] at X67 l67 y67 z67 st67 hQ67
        subst l67 y67 z67
        obtain ⟨rfl, N67q, e67⟩ := hQ67
        have N67 := Fr.app N66 N67q
        refine own_go (A' := (T67.setTop (mkF m 104 #[.val (.long q0), .second, .val (.long q1), .second, .val (.long q2), .second, .val (.int p3), .val (.int (1 : Int32)), .val (.int (((p3.toUInt32 >>> ((1 : Int32) &&& 31).toUInt32).toInt32) &&& (3 : Int32))), .val (.long ((q2 &&& (3 : Int64)) - (1 : Int64))), .second, .val (.long (q1 + ((q2 &&& (3 : Int64)) - (1 : Int64)))), .second, .val .null, .val (.ref b65), .val (.int (alN q0 (q1 + ((q2 &&& (3 : Int64)) - (1 : Int64))))), .unset, .unset, .unset] [(.int (1 : Int32))]))) (fun t k => ?_) ?_
        · show Steps p.tables e below (s₁.setTop (mkF m 71 #[.val (.long q0), .second, .val (.long q1), .second, .val (.long q2), .second, .val (.int p3), .val (.int (1 : Int32)), .val (.int (((p3.toUInt32 >>> ((1 : Int32) &&& 31).toUInt32).toInt32) &&& (3 : Int32))), .val (.long ((q2 &&& (3 : Int64)) - (1 : Int64))), .second, .val (.long (q1 + ((q2 &&& (3 : Int64)) - (1 : Int64)))), .second, .unset, .unset, .unset, .unset, .unset, .unset] [])) _
          refine XS.aconstNull X0.here hx rfl (hb hby at_71) ?_
          show Steps p.tables e below (s₁.setTop (mkF m 72 #[.val (.long q0), .second, .val (.long q1), .second, .val (.long q2), .second, .val (.int p3), .val (.int (1 : Int32)), .val (.int (((p3.toUInt32 >>> ((1 : Int32) &&& 31).toUInt32).toInt32) &&& (3 : Int32))), .val (.long ((q2 &&& (3 : Int64)) - (1 : Int64))), .second, .val (.long (q1 + ((q2 &&& (3 : Int64)) - (1 : Int64)))), .second, .unset, .unset, .unset, .unset, .unset, .unset] [.null])) _
          refine XS.goto X0.here hx rfl (pc0 := 72) (pc' := 79) rfl (hb hby at_72) (by decide) (by decide) ?_
          show Steps p.tables e below (s₁.setTop (mkF m 79 #[.val (.long q0), .second, .val (.long q1), .second, .val (.long q2), .second, .val (.int p3), .val (.int (1 : Int32)), .val (.int (((p3.toUInt32 >>> ((1 : Int32) &&& 31).toUInt32).toInt32) &&& (3 : Int32))), .val (.long ((q2 &&& (3 : Int64)) - (1 : Int64))), .second, .val (.long (q1 + ((q2 &&& (3 : Int64)) - (1 : Int64)))), .second, .unset, .unset, .unset, .unset, .unset, .unset] [.null])) _
          refine XS.astore X0.here hx rfl (hb hby at_79) rfl rfl (l' := #[.val (.long q0), .second, .val (.long q1), .second, .val (.long q2), .second, .val (.int p3), .val (.int (1 : Int32)), .val (.int (((p3.toUInt32 >>> ((1 : Int32) &&& 31).toUInt32).toInt32) &&& (3 : Int32))), .val (.long ((q2 &&& (3 : Int64)) - (1 : Int64))), .second, .val (.long (q1 + ((q2 &&& (3 : Int64)) - (1 : Int64)))), .second, .val .null, .unset, .unset, .unset, .unset, .unset]) rfl ?_
          show Steps p.tables e below (s₁.setTop (mkF m 81 #[.val (.long q0), .second, .val (.long q1), .second, .val (.long q2), .second, .val (.int p3), .val (.int (1 : Int32)), .val (.int (((p3.toUInt32 >>> ((1 : Int32) &&& 31).toUInt32).toInt32) &&& (3 : Int32))), .val (.long ((q2 &&& (3 : Int64)) - (1 : Int64))), .second, .val (.long (q1 + ((q2 &&& (3 : Int64)) - (1 : Int64)))), .second, .val .null, .unset, .unset, .unset, .unset, .unset] [])) _
          refine st65 _ ?_
          show Steps p.tables e below (T65.setTop (mkF m 84 #[.val (.long q0), .second, .val (.long q1), .second, .val (.long q2), .second, .val (.int p3), .val (.int (1 : Int32)), .val (.int (((p3.toUInt32 >>> ((1 : Int32) &&& 31).toUInt32).toInt32) &&& (3 : Int32))), .val (.long ((q2 &&& (3 : Int64)) - (1 : Int64))), .second, .val (.long (q1 + ((q2 &&& (3 : Int64)) - (1 : Int64)))), .second, .val .null, .unset, .unset, .unset, .unset, .unset] [(.ref b65)])) _
          refine XS.dup X65.here hx rfl (hb hby at_84) rfl rfl ?_
          show Steps p.tables e below (T65.setTop (mkF m 85 #[.val (.long q0), .second, .val (.long q1), .second, .val (.long q2), .second, .val (.int p3), .val (.int (1 : Int32)), .val (.int (((p3.toUInt32 >>> ((1 : Int32) &&& 31).toUInt32).toInt32) &&& (3 : Int32))), .val (.long ((q2 &&& (3 : Int64)) - (1 : Int64))), .second, .val (.long (q1 + ((q2 &&& (3 : Int64)) - (1 : Int64)))), .second, .val .null, .unset, .unset, .unset, .unset, .unset] [(.ref b65), (.ref b65)])) _
          refine XS.lloadN X65.here hx rfl (hb hby at_85) rfl ?_
          show Steps p.tables e below (T65.setTop (mkF m 86 #[.val (.long q0), .second, .val (.long q1), .second, .val (.long q2), .second, .val (.int p3), .val (.int (1 : Int32)), .val (.int (((p3.toUInt32 >>> ((1 : Int32) &&& 31).toUInt32).toInt32) &&& (3 : Int32))), .val (.long ((q2 &&& (3 : Int64)) - (1 : Int64))), .second, .val (.long (q1 + ((q2 &&& (3 : Int64)) - (1 : Int64)))), .second, .val .null, .unset, .unset, .unset, .unset, .unset] [(.long q0), (.ref b65), (.ref b65)])) _
          refine XS.aload X65.here hx rfl (hb hby at_86) rfl rfl ?_
          show Steps p.tables e below (T65.setTop (mkF m 88 #[.val (.long q0), .second, .val (.long q1), .second, .val (.long q2), .second, .val (.int p3), .val (.int (1 : Int32)), .val (.int (((p3.toUInt32 >>> ((1 : Int32) &&& 31).toUInt32).toInt32) &&& (3 : Int32))), .val (.long ((q2 &&& (3 : Int64)) - (1 : Int64))), .second, .val (.long (q1 + ((q2 &&& (3 : Int64)) - (1 : Int64)))), .second, .val .null, .unset, .unset, .unset, .unset, .unset] [.null, (.long q0), (.ref b65), (.ref b65)])) _
          refine st66.trans ?_
          show Steps p.tables e below (T66.setTop (mkF m 91 #[.val (.long q0), .second, .val (.long q1), .second, .val (.long q2), .second, .val (.int p3), .val (.int (1 : Int32)), .val (.int (((p3.toUInt32 >>> ((1 : Int32) &&& 31).toUInt32).toInt32) &&& (3 : Int32))), .val (.long ((q2 &&& (3 : Int64)) - (1 : Int64))), .second, .val (.long (q1 + ((q2 &&& (3 : Int64)) - (1 : Int64)))), .second, .val .null, .unset, .unset, .unset, .unset, .unset] [(.ref b65)])) _
          refine XS.astore X66.here hx rfl (hb hby at_91) rfl rfl (l' := #[.val (.long q0), .second, .val (.long q1), .second, .val (.long q2), .second, .val (.int p3), .val (.int (1 : Int32)), .val (.int (((p3.toUInt32 >>> ((1 : Int32) &&& 31).toUInt32).toInt32) &&& (3 : Int32))), .val (.long ((q2 &&& (3 : Int64)) - (1 : Int64))), .second, .val (.long (q1 + ((q2 &&& (3 : Int64)) - (1 : Int64)))), .second, .val .null, .val (.ref b65), .unset, .unset, .unset, .unset]) rfl ?_
          show Steps p.tables e below (T66.setTop (mkF m 93 #[.val (.long q0), .second, .val (.long q1), .second, .val (.long q2), .second, .val (.int p3), .val (.int (1 : Int32)), .val (.int (((p3.toUInt32 >>> ((1 : Int32) &&& 31).toUInt32).toInt32) &&& (3 : Int32))), .val (.long ((q2 &&& (3 : Int64)) - (1 : Int64))), .second, .val (.long (q1 + ((q2 &&& (3 : Int64)) - (1 : Int64)))), .second, .val .null, .val (.ref b65), .unset, .unset, .unset, .unset] [])) _
          refine XS.aload X66.here hx rfl (hb hby at_93) rfl rfl ?_
          show Steps p.tables e below (T66.setTop (mkF m 95 #[.val (.long q0), .second, .val (.long q1), .second, .val (.long q2), .second, .val (.int p3), .val (.int (1 : Int32)), .val (.int (((p3.toUInt32 >>> ((1 : Int32) &&& 31).toUInt32).toInt32) &&& (3 : Int32))), .val (.long ((q2 &&& (3 : Int64)) - (1 : Int64))), .second, .val (.long (q1 + ((q2 &&& (3 : Int64)) - (1 : Int64)))), .second, .val .null, .val (.ref b65), .unset, .unset, .unset, .unset] [(.ref b65)])) _
          refine XS.lload X66.here hx rfl (hb hby at_95) rfl ?_
          show Steps p.tables e below (T66.setTop (mkF m 97 #[.val (.long q0), .second, .val (.long q1), .second, .val (.long q2), .second, .val (.int p3), .val (.int (1 : Int32)), .val (.int (((p3.toUInt32 >>> ((1 : Int32) &&& 31).toUInt32).toInt32) &&& (3 : Int32))), .val (.long ((q2 &&& (3 : Int64)) - (1 : Int64))), .second, .val (.long (q1 + ((q2 &&& (3 : Int64)) - (1 : Int64)))), .second, .val .null, .val (.ref b65), .unset, .unset, .unset, .unset] [(.long (q1 + ((q2 &&& (3 : Int64)) - (1 : Int64)))), (.ref b65)])) _
          refine st67.trans ?_
          show Steps p.tables e below (T67.setTop (mkF m 100 #[.val (.long q0), .second, .val (.long q1), .second, .val (.long q2), .second, .val (.int p3), .val (.int (1 : Int32)), .val (.int (((p3.toUInt32 >>> ((1 : Int32) &&& 31).toUInt32).toInt32) &&& (3 : Int32))), .val (.long ((q2 &&& (3 : Int64)) - (1 : Int64))), .second, .val (.long (q1 + ((q2 &&& (3 : Int64)) - (1 : Int64)))), .second, .val .null, .val (.ref b65), .unset, .unset, .unset, .unset] [(.int (alN q0 (q1 + ((q2 &&& (3 : Int64)) - (1 : Int64)))))])) _
          refine XS.istore X67.here hx rfl (hb hby at_100) rfl (l' := #[.val (.long q0), .second, .val (.long q1), .second, .val (.long q2), .second, .val (.int p3), .val (.int (1 : Int32)), .val (.int (((p3.toUInt32 >>> ((1 : Int32) &&& 31).toUInt32).toInt32) &&& (3 : Int32))), .val (.long ((q2 &&& (3 : Int64)) - (1 : Int64))), .second, .val (.long (q1 + ((q2 &&& (3 : Int64)) - (1 : Int64)))), .second, .val .null, .val (.ref b65), .val (.int (alN q0 (q1 + ((q2 &&& (3 : Int64)) - (1 : Int64))))), .unset, .unset, .unset]) rfl ?_
          show Steps p.tables e below (T67.setTop (mkF m 102 #[.val (.long q0), .second, .val (.long q1), .second, .val (.long q2), .second, .val (.int p3), .val (.int (1 : Int32)), .val (.int (((p3.toUInt32 >>> ((1 : Int32) &&& 31).toUInt32).toInt32) &&& (3 : Int32))), .val (.long ((q2 &&& (3 : Int64)) - (1 : Int64))), .second, .val (.long (q1 + ((q2 &&& (3 : Int64)) - (1 : Int64)))), .second, .val .null, .val (.ref b65), .val (.int (alN q0 (q1 + ((q2 &&& (3 : Int64)) - (1 : Int64))))), .unset, .unset, .unset] [])) _
          refine XS.iload X67.here hx rfl (hb hby at_102) rfl ?_
          exact k
        refine own_go (A' := (T67.setTop (mkF m 107 #[.val (.long q0), .second, .val (.long q1), .second, .val (.long q2), .second, .val (.int p3), .val (.int (1 : Int32)), .val (.int (((p3.toUInt32 >>> ((1 : Int32) &&& 31).toUInt32).toInt32) &&& (3 : Int32))), .val (.long ((q2 &&& (3 : Int64)) - (1 : Int64))), .second, .val (.long (q1 + ((q2 &&& (3 : Int64)) - (1 : Int64)))), .second, .val .null, .val (.ref b65), .val (.int (alN q0 (q1 + ((q2 &&& (3 : Int64)) - (1 : Int64))))), .unset, .unset, .unset] []))) (fun t k => XS.ifNo X67.here hx rfl (hb hby at_104) rfl ((if0 _ _).trans (feq (by decide : ¬ ((1 : Int32) = (0 : Int32)))).1) k) ?_
        refine own_go (A' := (T67.setTop (mkF m 120 #[.val (.long q0), .second, .val (.long q1), .second, .val (.long q2), .second, .val (.int p3), .val (.int (1 : Int32)), .val (.int (((p3.toUInt32 >>> ((1 : Int32) &&& 31).toUInt32).toInt32) &&& (3 : Int32))), .val (.long ((q2 &&& (3 : Int64)) - (1 : Int64))), .second, .val (.long (q1 + ((q2 &&& (3 : Int64)) - (1 : Int64)))), .second, .val .null, .val (.ref b65), .val (.int (alN q0 (q1 + ((q2 &&& (3 : Int64)) - (1 : Int64))))), .val (.long (9223372036854775807 : Int64)), .second, .unset] [(.int (lcmpW q0 (9223372036854775807 : Int64)))]))) (fun t k => ?_) ?_
        · show Steps p.tables e below (T67.setTop (mkF m 107 #[.val (.long q0), .second, .val (.long q1), .second, .val (.long q2), .second, .val (.int p3), .val (.int (1 : Int32)), .val (.int (((p3.toUInt32 >>> ((1 : Int32) &&& 31).toUInt32).toInt32) &&& (3 : Int32))), .val (.long ((q2 &&& (3 : Int64)) - (1 : Int64))), .second, .val (.long (q1 + ((q2 &&& (3 : Int64)) - (1 : Int64)))), .second, .val .null, .val (.ref b65), .val (.int (alN q0 (q1 + ((q2 &&& (3 : Int64)) - (1 : Int64))))), .unset, .unset, .unset] [])) _
          refine X67.ldc2Long hx hown (mvT hZ (hw _ (List.mem_of_getElem? (i := 54) rfl))) (g := (mkF m 107 #[.val (.long q0), .second, .val (.long q1), .second, .val (.long q2), .second, .val (.int p3), .val (.int (1 : Int32)), .val (.int (((p3.toUInt32 >>> ((1 : Int32) &&& 31).toUInt32).toInt32) &&& (3 : Int32))), .val (.long ((q2 &&& (3 : Int64)) - (1 : Int64))), .second, .val (.long (q1 + ((q2 &&& (3 : Int64)) - (1 : Int64)))), .second, .val .null, .val (.ref b65), .val (.int (alN q0 (q1 + ((q2 &&& (3 : Int64)) - (1 : Int64))))), .unset, .unset, .unset] [])) rfl (hb hby at_107) _ ?_
          show Steps p.tables e below (T67.setTop (mkF m 110 #[.val (.long q0), .second, .val (.long q1), .second, .val (.long q2), .second, .val (.int p3), .val (.int (1 : Int32)), .val (.int (((p3.toUInt32 >>> ((1 : Int32) &&& 31).toUInt32).toInt32) &&& (3 : Int32))), .val (.long ((q2 &&& (3 : Int64)) - (1 : Int64))), .second, .val (.long (q1 + ((q2 &&& (3 : Int64)) - (1 : Int64)))), .second, .val .null, .val (.ref b65), .val (.int (alN q0 (q1 + ((q2 &&& (3 : Int64)) - (1 : Int64))))), .unset, .unset, .unset] [(.long (9223372036854775807 : Int64))])) _
          refine XS.goto X67.here hx rfl (pc0 := 110) (pc' := 114) rfl (hb hby at_110) (by decide) (by decide) ?_
          show Steps p.tables e below (T67.setTop (mkF m 114 #[.val (.long q0), .second, .val (.long q1), .second, .val (.long q2), .second, .val (.int p3), .val (.int (1 : Int32)), .val (.int (((p3.toUInt32 >>> ((1 : Int32) &&& 31).toUInt32).toInt32) &&& (3 : Int32))), .val (.long ((q2 &&& (3 : Int64)) - (1 : Int64))), .second, .val (.long (q1 + ((q2 &&& (3 : Int64)) - (1 : Int64)))), .second, .val .null, .val (.ref b65), .val (.int (alN q0 (q1 + ((q2 &&& (3 : Int64)) - (1 : Int64))))), .unset, .unset, .unset] [(.long (9223372036854775807 : Int64))])) _
          refine XS.lstore X67.here hx rfl (hb hby at_114) rfl (l' := #[.val (.long q0), .second, .val (.long q1), .second, .val (.long q2), .second, .val (.int p3), .val (.int (1 : Int32)), .val (.int (((p3.toUInt32 >>> ((1 : Int32) &&& 31).toUInt32).toInt32) &&& (3 : Int32))), .val (.long ((q2 &&& (3 : Int64)) - (1 : Int64))), .second, .val (.long (q1 + ((q2 &&& (3 : Int64)) - (1 : Int64)))), .second, .val .null, .val (.ref b65), .val (.int (alN q0 (q1 + ((q2 &&& (3 : Int64)) - (1 : Int64))))), .val (.long (9223372036854775807 : Int64)), .second, .unset]) rfl ?_
          show Steps p.tables e below (T67.setTop (mkF m 116 #[.val (.long q0), .second, .val (.long q1), .second, .val (.long q2), .second, .val (.int p3), .val (.int (1 : Int32)), .val (.int (((p3.toUInt32 >>> ((1 : Int32) &&& 31).toUInt32).toInt32) &&& (3 : Int32))), .val (.long ((q2 &&& (3 : Int64)) - (1 : Int64))), .second, .val (.long (q1 + ((q2 &&& (3 : Int64)) - (1 : Int64)))), .second, .val .null, .val (.ref b65), .val (.int (alN q0 (q1 + ((q2 &&& (3 : Int64)) - (1 : Int64))))), .val (.long (9223372036854775807 : Int64)), .second, .unset] [])) _
          refine XS.lloadN X67.here hx rfl (hb hby at_116) rfl ?_
          show Steps p.tables e below (T67.setTop (mkF m 117 #[.val (.long q0), .second, .val (.long q1), .second, .val (.long q2), .second, .val (.int p3), .val (.int (1 : Int32)), .val (.int (((p3.toUInt32 >>> ((1 : Int32) &&& 31).toUInt32).toInt32) &&& (3 : Int32))), .val (.long ((q2 &&& (3 : Int64)) - (1 : Int64))), .second, .val (.long (q1 + ((q2 &&& (3 : Int64)) - (1 : Int64)))), .second, .val .null, .val (.ref b65), .val (.int (alN q0 (q1 + ((q2 &&& (3 : Int64)) - (1 : Int64))))), .val (.long (9223372036854775807 : Int64)), .second, .unset] [(.long q0)])) _
          refine XS.lload X67.here hx rfl (hb hby at_117) rfl ?_
          show Steps p.tables e below (T67.setTop (mkF m 119 #[.val (.long q0), .second, .val (.long q1), .second, .val (.long q2), .second, .val (.int p3), .val (.int (1 : Int32)), .val (.int (((p3.toUInt32 >>> ((1 : Int32) &&& 31).toUInt32).toInt32) &&& (3 : Int32))), .val (.long ((q2 &&& (3 : Int64)) - (1 : Int64))), .second, .val (.long (q1 + ((q2 &&& (3 : Int64)) - (1 : Int64)))), .second, .val .null, .val (.ref b65), .val (.int (alN q0 (q1 + ((q2 &&& (3 : Int64)) - (1 : Int64))))), .val (.long (9223372036854775807 : Int64)), .second, .unset] [(.long (9223372036854775807 : Int64)), (.long q0)])) _
          refine XS.lcmp X67.here hx rfl (hb hby at_119) rfl ?_
          exact k
        by_cases hc68 : (0 : Int32) < (lcmpW q0 (9223372036854775807 : Int64))
        · -- hc68: yes
          refine own_go (A' := (T67.setTop (mkF m 144 #[.val (.long q0), .second, .val (.long q1), .second, .val (.long q2), .second, .val (.int p3), .val (.int (1 : Int32)), .val (.int (((p3.toUInt32 >>> ((1 : Int32) &&& 31).toUInt32).toInt32) &&& (3 : Int32))), .val (.long ((q2 &&& (3 : Int64)) - (1 : Int64))), .second, .val (.long (q1 + ((q2 &&& (3 : Int64)) - (1 : Int64)))), .second, .val .null, .val (.ref b65), .val (.int (alN q0 (q1 + ((q2 &&& (3 : Int64)) - (1 : Int64))))), .val (.long (9223372036854775807 : Int64)), .second, .unset] []))) (fun t k => XS.ifYes X67.here hx rfl (pc0 := 120) (pc' := 144) rfl (hb hby at_120) rfl ((if0 _ _).trans (tlt hc68).2.2.1) (by decide) (by decide) k) ?_
          refine own_go (A' := (T67.setTop (mkF m 151 #[.val (.long q0), .second, .val (.long q1), .second, .val (.long q2), .second, .val (.int p3), .val (.int (1 : Int32)), .val (.int (((p3.toUInt32 >>> ((1 : Int32) &&& 31).toUInt32).toInt32) &&& (3 : Int32))), .val (.long ((q2 &&& (3 : Int64)) - (1 : Int64))), .second, .val (.long (q1 + ((q2 &&& (3 : Int64)) - (1 : Int64)))), .second, .val .null, .val (.ref b65), .val (.int (alN q0 (q1 + ((q2 &&& (3 : Int64)) - (1 : Int64))))), .val (.long (9223372036854775807 : Int64)), .second, .val (.int (0 : Int32))] [(.int (0 : Int32)), (.int (alN q0 (q1 + ((q2 &&& (3 : Int64)) - (1 : Int64)))))]))) (fun t k => ?_) ?_
          · show Steps p.tables e below (T67.setTop (mkF m 144 #[.val (.long q0), .second, .val (.long q1), .second, .val (.long q2), .second, .val (.int p3), .val (.int (1 : Int32)), .val (.int (((p3.toUInt32 >>> ((1 : Int32) &&& 31).toUInt32).toInt32) &&& (3 : Int32))), .val (.long ((q2 &&& (3 : Int64)) - (1 : Int64))), .second, .val (.long (q1 + ((q2 &&& (3 : Int64)) - (1 : Int64)))), .second, .val .null, .val (.ref b65), .val (.int (alN q0 (q1 + ((q2 &&& (3 : Int64)) - (1 : Int64))))), .val (.long (9223372036854775807 : Int64)), .second, .unset] [])) _
            refine XS.iconst X67.here hx rfl (hb hby at_144) ?_
            show Steps p.tables e below (T67.setTop (mkF m 145 #[.val (.long q0), .second, .val (.long q1), .second, .val (.long q2), .second, .val (.int p3), .val (.int (1 : Int32)), .val (.int (((p3.toUInt32 >>> ((1 : Int32) &&& 31).toUInt32).toInt32) &&& (3 : Int32))), .val (.long ((q2 &&& (3 : Int64)) - (1 : Int64))), .second, .val (.long (q1 + ((q2 &&& (3 : Int64)) - (1 : Int64)))), .second, .val .null, .val (.ref b65), .val (.int (alN q0 (q1 + ((q2 &&& (3 : Int64)) - (1 : Int64))))), .val (.long (9223372036854775807 : Int64)), .second, .unset] [(.int (0 : Int32))])) _
            refine XS.istore X67.here hx rfl (hb hby at_145) rfl (l' := #[.val (.long q0), .second, .val (.long q1), .second, .val (.long q2), .second, .val (.int p3), .val (.int (1 : Int32)), .val (.int (((p3.toUInt32 >>> ((1 : Int32) &&& 31).toUInt32).toInt32) &&& (3 : Int32))), .val (.long ((q2 &&& (3 : Int64)) - (1 : Int64))), .second, .val (.long (q1 + ((q2 &&& (3 : Int64)) - (1 : Int64)))), .second, .val .null, .val (.ref b65), .val (.int (alN q0 (q1 + ((q2 &&& (3 : Int64)) - (1 : Int64))))), .val (.long (9223372036854775807 : Int64)), .second, .val (.int (0 : Int32))]) rfl ?_
            show Steps p.tables e below (T67.setTop (mkF m 147 #[.val (.long q0), .second, .val (.long q1), .second, .val (.long q2), .second, .val (.int p3), .val (.int (1 : Int32)), .val (.int (((p3.toUInt32 >>> ((1 : Int32) &&& 31).toUInt32).toInt32) &&& (3 : Int32))), .val (.long ((q2 &&& (3 : Int64)) - (1 : Int64))), .second, .val (.long (q1 + ((q2 &&& (3 : Int64)) - (1 : Int64)))), .second, .val .null, .val (.ref b65), .val (.int (alN q0 (q1 + ((q2 &&& (3 : Int64)) - (1 : Int64))))), .val (.long (9223372036854775807 : Int64)), .second, .val (.int (0 : Int32))] [])) _
            refine XS.iload X67.here hx rfl (hb hby at_147) rfl ?_
            show Steps p.tables e below (T67.setTop (mkF m 149 #[.val (.long q0), .second, .val (.long q1), .second, .val (.long q2), .second, .val (.int p3), .val (.int (1 : Int32)), .val (.int (((p3.toUInt32 >>> ((1 : Int32) &&& 31).toUInt32).toInt32) &&& (3 : Int32))), .val (.long ((q2 &&& (3 : Int64)) - (1 : Int64))), .second, .val (.long (q1 + ((q2 &&& (3 : Int64)) - (1 : Int64)))), .second, .val .null, .val (.ref b65), .val (.int (alN q0 (q1 + ((q2 &&& (3 : Int64)) - (1 : Int64))))), .val (.long (9223372036854775807 : Int64)), .second, .val (.int (0 : Int32))] [(.int (alN q0 (q1 + ((q2 &&& (3 : Int64)) - (1 : Int64)))))])) _
            refine XS.iload X67.here hx rfl (hb hby at_149) rfl ?_
            exact k
          refine own_go (A' := (T67.setTop (mkF m 154 #[.val (.long q0), .second, .val (.long q1), .second, .val (.long q2), .second, .val (.int p3), .val (.int (1 : Int32)), .val (.int (((p3.toUInt32 >>> ((1 : Int32) &&& 31).toUInt32).toInt32) &&& (3 : Int32))), .val (.long ((q2 &&& (3 : Int64)) - (1 : Int64))), .second, .val (.long (q1 + ((q2 &&& (3 : Int64)) - (1 : Int64)))), .second, .val .null, .val (.ref b65), .val (.int (alN q0 (q1 + ((q2 &&& (3 : Int64)) - (1 : Int64))))), .val (.long (9223372036854775807 : Int64)), .second, .val (.int (0 : Int32))] []))) (fun t k => XS.icmpNo X67.here hx rfl (hb hby at_151) rfl (teq ((own_alN _ _).trans (own_A _ hc68))).2 k) ?_
          refine own_go (A' := (T67.setTop (mkF m 159 #[.val (.long q0), .second, .val (.long q1), .second, .val (.long q2), .second, .val (.int p3), .val (.int (1 : Int32)), .val (.int (((p3.toUInt32 >>> ((1 : Int32) &&& 31).toUInt32).toInt32) &&& (3 : Int32))), .val (.long ((q2 &&& (3 : Int64)) - (1 : Int64))), .second, .val (.long (q1 + ((q2 &&& (3 : Int64)) - (1 : Int64)))), .second, .val .null, .val (.ref b65), .val (.int (alN q0 (q1 + ((q2 &&& (3 : Int64)) - (1 : Int64))))), .val (.long (9223372036854775807 : Int64)), .second, .val (.int (0 : Int32))] [(.int (1 : Int32))]))) (fun t k => ?_) ?_
          · show Steps p.tables e below (T67.setTop (mkF m 154 #[.val (.long q0), .second, .val (.long q1), .second, .val (.long q2), .second, .val (.int p3), .val (.int (1 : Int32)), .val (.int (((p3.toUInt32 >>> ((1 : Int32) &&& 31).toUInt32).toInt32) &&& (3 : Int32))), .val (.long ((q2 &&& (3 : Int64)) - (1 : Int64))), .second, .val (.long (q1 + ((q2 &&& (3 : Int64)) - (1 : Int64)))), .second, .val .null, .val (.ref b65), .val (.int (alN q0 (q1 + ((q2 &&& (3 : Int64)) - (1 : Int64))))), .val (.long (9223372036854775807 : Int64)), .second, .val (.int (0 : Int32))] [])) _
            refine XS.iconst X67.here hx rfl (hb hby at_154) ?_
            show Steps p.tables e below (T67.setTop (mkF m 155 #[.val (.long q0), .second, .val (.long q1), .second, .val (.long q2), .second, .val (.int p3), .val (.int (1 : Int32)), .val (.int (((p3.toUInt32 >>> ((1 : Int32) &&& 31).toUInt32).toInt32) &&& (3 : Int32))), .val (.long ((q2 &&& (3 : Int64)) - (1 : Int64))), .second, .val (.long (q1 + ((q2 &&& (3 : Int64)) - (1 : Int64)))), .second, .val .null, .val (.ref b65), .val (.int (alN q0 (q1 + ((q2 &&& (3 : Int64)) - (1 : Int64))))), .val (.long (9223372036854775807 : Int64)), .second, .val (.int (0 : Int32))] [(.int (1 : Int32))])) _
            refine XS.goto X67.here hx rfl (pc0 := 155) (pc' := 159) rfl (hb hby at_155) (by decide) (by decide) ?_
            exact k
          obtain ⟨fs, hr, hrun, hended, hW, hsame⟩ := X67.leave (v := some (.int (1 : Int32))) (fun h => by rw [Bd.returns] at h; cases h) hlk
          refine ⟨_, _, ?_, hrun, hended, _, _, rfl, ?_, ⟨_, rfl⟩, hW, hsame.mono (by decide) (by decide)⟩
          · show Steps p.tables e below (T67.setTop (mkF m 159 #[.val (.long q0), .second, .val (.long q1), .second, .val (.long q2), .second, .val (.int p3), .val (.int (1 : Int32)), .val (.int (((p3.toUInt32 >>> ((1 : Int32) &&& 31).toUInt32).toInt32) &&& (3 : Int32))), .val (.long ((q2 &&& (3 : Int64)) - (1 : Int64))), .second, .val (.long (q1 + ((q2 &&& (3 : Int64)) - (1 : Int64)))), .second, .val .null, .val (.ref b65), .val (.int (alN q0 (q1 + ((q2 &&& (3 : Int64)) - (1 : Int64))))), .val (.long (9223372036854775807 : Int64)), .second, .val (.int (0 : Int32))] [(.int (1 : Int32))])) _
            exact retN X67 hx (t := .boolean) Bd.returns (by simp) (hb hby at_159) hr
          · show Q0 Z q0 q1 q2 p3 wC clC h0 n0 _ T67.heap _
            exact ⟨rfl, N67⟩
        · -- hc68: no
          refine own_go (A' := (T67.setTop (mkF m 123 #[.val (.long q0), .second, .val (.long q1), .second, .val (.long q2), .second, .val (.int p3), .val (.int (1 : Int32)), .val (.int (((p3.toUInt32 >>> ((1 : Int32) &&& 31).toUInt32).toInt32) &&& (3 : Int32))), .val (.long ((q2 &&& (3 : Int64)) - (1 : Int64))), .second, .val (.long (q1 + ((q2 &&& (3 : Int64)) - (1 : Int64)))), .second, .val .null, .val (.ref b65), .val (.int (alN q0 (q1 + ((q2 &&& (3 : Int64)) - (1 : Int64))))), .val (.long (9223372036854775807 : Int64)), .second, .unset] []))) (fun t k => XS.ifNo X67.here hx rfl (hb hby at_120) rfl ((if0 _ _).trans (flt hc68).2.2.1) k) ?_
          obtain ⟨_, _, ⟨T69, L69, k69, n69⟩, -, X69, ⟨Lc69, hQ69, l69, y69, z69⟩, st69⟩ := Jvm.LawKit.callS X67 hx (y := (⟨"java/lang/Math", "max", "(JJ)J"⟩ : MethodName)) hown (mvT hZ (hw _ (List.mem_of_getElem? (i := 47) rfl))) (mvT hZ (hw _ (List.mem_of_getElem? (i := 48) rfl))) (mvT hZ (hw _ (List.mem_of_getElem? (i := 49) rfl))) (mvT hZ (hw _ (List.mem_of_getElem? (i := 50) rfl))) (by decide) (backOf (W := 0) (rm8 l Z a0 hw [] (q1 + ((q2 &&& (3 : Int64)) - (1 : Int64))) q0  T66.heap n0 (Nat.le_trans Z0 K66.1) ) hZ (hw _ (List.mem_of_getElem? (i := 50) rfl)) (hw _ (List.mem_of_getElem? (i := 49) rfl)) (by decide) (by decide)) (g := (mkF m 126 #[.val (.long q0), .second, .val (.long q1), .second, .val (.long q2), .second, .val (.int p3), .val (.int (1 : Int32)), .val (.int (((p3.toUInt32 >>> ((1 : Int32) &&& 31).toUInt32).toInt32) &&& (3 : Int32))), .val (.long ((q2 &&& (3 : Int64)) - (1 : Int64))), .second, .val (.long (q1 + ((q2 &&& (3 : Int64)) - (1 : Int64)))), .second, .val .null, .val (.ref b65), .val (.int (alN q0 (q1 + ((q2 &&& (3 : Int64)) - (1 : Int64))))), .val (.long (9223372036854775807 : Int64)), .second, .unset] [(.long q0), (.long (q1 + ((q2 &&& (3 : Int64)) - (1 : Int64))))])) rfl (by rw [hml]; rfl) (argsL := [(.long (q1 + ((q2 &&& (3 : Int64)) - (1 : Int64)))), (.long q0)]) (rest := []) (lenOf pd_6 rfl) rfl (by show 2 * 0 + _ ≤ _; exact Nat.le_of_eq rfl) (hb hby at_126) (fun _ _ => ⟨rfl, e67, (by decide : 1 + 0 ≤ _), (by decide : 2 + 0 ≤ _)⟩)
          dsimp only [Pt.U, Pt.locs, Pt.cells, Pt.slots] at X69 l69 y69 z69 st69 hQ69
          subst l69 y69 z69
          obtain ⟨rfl, N69q, e69⟩ := hQ69
          have N69 := Fr.app N67 N69q
          obtain ⟨_, _, ⟨T70, L70, k70, n70⟩, -, X70, ⟨Lc70, hQ70, l70, y70, z70⟩, st70⟩ := Jvm.LawKit.callS X69 hx (y := (⟨"java/lang/Math", "min", "(JJ)J"⟩ : MethodName)) hown (mvT hZ (hw _ (List.mem_of_getElem? (i := 51) rfl))) (mvT hZ (hw _ (List.mem_of_getElem? (i := 52) rfl))) (mvT hZ (hw _ (List.mem_of_getElem? (i := 49) rfl))) (mvT hZ (hw _ (List.mem_of_getElem? (i := 53) rfl))) (by decide) (backOf (W := 0) (rm9 l Z a0 hw [] (mxL (q1 + ((q2 &&& (3 : Int64)) - (1 : Int64))) q0) (9223372036854775807 : Int64)  T66.heap n0 (Nat.le_trans Z0 K66.1) ) hZ (hw _ (List.mem_of_getElem? (i := 53) rfl)) (hw _ (List.mem_of_getElem? (i := 49) rfl)) (by decide) (by decide)) (g := (mkF m 131 #[.val (.long q0), .second, .val (.long q1), .second, .val (.long q2), .second, .val (.int p3), .val (.int (1 : Int32)), .val (.int (((p3.toUInt32 >>> ((1 : Int32) &&& 31).toUInt32).toInt32) &&& (3 : Int32))), .val (.long ((q2 &&& (3 : Int64)) - (1 : Int64))), .second, .val (.long (q1 + ((q2 &&& (3 : Int64)) - (1 : Int64)))), .second, .val .null, .val (.ref b65), .val (.int (alN q0 (q1 + ((q2 &&& (3 : Int64)) - (1 : Int64))))), .val (.long (9223372036854775807 : Int64)), .second, .unset] [(.long (9223372036854775807 : Int64)), (.long (mxL (q1 + ((q2 &&& (3 : Int64)) - (1 : Int64))) q0))])) rfl (by rw [hml]; rfl) (argsL := [(.long (mxL (q1 + ((q2 &&& (3 : Int64)) - (1 : Int64))) q0)), (.long (9223372036854775807 : Int64))]) (rest := []) (lenOf pd_6 rfl) rfl (by show 2 * 0 + _ ≤ _; exact Nat.le_of_eq rfl) (hb hby at_131) (fun _ _ => ⟨rfl, e69, (by decide : 1 + 0 ≤ _), (by decide : 2 + 0 ≤ _)⟩)
          dsimp only [Pt.U, Pt.locs, Pt.cells, Pt.slots] at X70 l70 y70 z70 st70 hQ70
          subst l70 y70 z70
          obtain ⟨rfl, N70q, e70⟩ := hQ70
          have N70 := Fr.app N69 N70q
          refine own_go (A' := (T70.setTop (mkF m 137 #[.val (.long q0), .second, .val (.long q1), .second, .val (.long q2), .second, .val (.int p3), .val (.int (1 : Int32)), .val (.int (((p3.toUInt32 >>> ((1 : Int32) &&& 31).toUInt32).toInt32) &&& (3 : Int32))), .val (.long ((q2 &&& (3 : Int64)) - (1 : Int64))), .second, .val (.long (q1 + ((q2 &&& (3 : Int64)) - (1 : Int64)))), .second, .val .null, .val (.ref b65), .val (.int (alN q0 (q1 + ((q2 &&& (3 : Int64)) - (1 : Int64))))), .val (.long (9223372036854775807 : Int64)), .second, .unset] [(.int (lcmpW (mnL (mxL (q1 + ((q2 &&& (3 : Int64)) - (1 : Int64))) q0) (9223372036854775807 : Int64)) (q1 + ((q2 &&& (3 : Int64)) - (1 : Int64)))))]))) (fun t k => ?_) ?_
          · show Steps p.tables e below (T67.setTop (mkF m 123 #[.val (.long q0), .second, .val (.long q1), .second, .val (.long q2), .second, .val (.int p3), .val (.int (1 : Int32)), .val (.int (((p3.toUInt32 >>> ((1 : Int32) &&& 31).toUInt32).toInt32) &&& (3 : Int32))), .val (.long ((q2 &&& (3 : Int64)) - (1 : Int64))), .second, .val (.long (q1 + ((q2 &&& (3 : Int64)) - (1 : Int64)))), .second, .val .null, .val (.ref b65), .val (.int (alN q0 (q1 + ((q2 &&& (3 : Int64)) - (1 : Int64))))), .val (.long (9223372036854775807 : Int64)), .second, .unset] [])) _
            refine XS.lload X67.here hx rfl (hb hby at_123) rfl ?_
            show Steps p.tables e below (T67.setTop (mkF m 125 #[.val (.long q0), .second, .val (.long q1), .second, .val (.long q2), .second, .val (.int p3), .val (.int (1 : Int32)), .val (.int (((p3.toUInt32 >>> ((1 : Int32) &&& 31).toUInt32).toInt32) &&& (3 : Int32))), .val (.long ((q2 &&& (3 : Int64)) - (1 : Int64))), .second, .val (.long (q1 + ((q2 &&& (3 : Int64)) - (1 : Int64)))), .second, .val .null, .val (.ref b65), .val (.int (alN q0 (q1 + ((q2 &&& (3 : Int64)) - (1 : Int64))))), .val (.long (9223372036854775807 : Int64)), .second, .unset] [(.long (q1 + ((q2 &&& (3 : Int64)) - (1 : Int64))))])) _
            refine XS.lloadN X67.here hx rfl (hb hby at_125) rfl ?_
            show Steps p.tables e below (T67.setTop (mkF m 126 #[.val (.long q0), .second, .val (.long q1), .second, .val (.long q2), .second, .val (.int p3), .val (.int (1 : Int32)), .val (.int (((p3.toUInt32 >>> ((1 : Int32) &&& 31).toUInt32).toInt32) &&& (3 : Int32))), .val (.long ((q2 &&& (3 : Int64)) - (1 : Int64))), .second, .val (.long (q1 + ((q2 &&& (3 : Int64)) - (1 : Int64)))), .second, .val .null, .val (.ref b65), .val (.int (alN q0 (q1 + ((q2 &&& (3 : Int64)) - (1 : Int64))))), .val (.long (9223372036854775807 : Int64)), .second, .unset] [(.long q0), (.long (q1 + ((q2 &&& (3 : Int64)) - (1 : Int64))))])) _
            refine st69 _ ?_
            show Steps p.tables e below (T69.setTop (mkF m 129 #[.val (.long q0), .second, .val (.long q1), .second, .val (.long q2), .second, .val (.int p3), .val (.int (1 : Int32)), .val (.int (((p3.toUInt32 >>> ((1 : Int32) &&& 31).toUInt32).toInt32) &&& (3 : Int32))), .val (.long ((q2 &&& (3 : Int64)) - (1 : Int64))), .second, .val (.long (q1 + ((q2 &&& (3 : Int64)) - (1 : Int64)))), .second, .val .null, .val (.ref b65), .val (.int (alN q0 (q1 + ((q2 &&& (3 : Int64)) - (1 : Int64))))), .val (.long (9223372036854775807 : Int64)), .second, .unset] [(.long (mxL (q1 + ((q2 &&& (3 : Int64)) - (1 : Int64))) q0))])) _
            refine XS.lload X69.here hx rfl (hb hby at_129) rfl ?_
            show Steps p.tables e below (T69.setTop (mkF m 131 #[.val (.long q0), .second, .val (.long q1), .second, .val (.long q2), .second, .val (.int p3), .val (.int (1 : Int32)), .val (.int (((p3.toUInt32 >>> ((1 : Int32) &&& 31).toUInt32).toInt32) &&& (3 : Int32))), .val (.long ((q2 &&& (3 : Int64)) - (1 : Int64))), .second, .val (.long (q1 + ((q2 &&& (3 : Int64)) - (1 : Int64)))), .second, .val .null, .val (.ref b65), .val (.int (alN q0 (q1 + ((q2 &&& (3 : Int64)) - (1 : Int64))))), .val (.long (9223372036854775807 : Int64)), .second, .unset] [(.long (9223372036854775807 : Int64)), (.long (mxL (q1 + ((q2 &&& (3 : Int64)) - (1 : Int64))) q0))])) _
            refine st70 _ ?_
            show Steps p.tables e below (T70.setTop (mkF m 134 #[.val (.long q0), .second, .val (.long q1), .second, .val (.long q2), .second, .val (.int p3), .val (.int (1 : Int32)), .val (.int (((p3.toUInt32 >>> ((1 : Int32) &&& 31).toUInt32).toInt32) &&& (3 : Int32))), .val (.long ((q2 &&& (3 : Int64)) - (1 : Int64))), .second, .val (.long (q1 + ((q2 &&& (3 : Int64)) - (1 : Int64)))), .second, .val .null, .val (.ref b65), .val (.int (alN q0 (q1 + ((q2 &&& (3 : Int64)) - (1 : Int64))))), .val (.long (9223372036854775807 : Int64)), .second, .unset] [(.long (mnL (mxL (q1 + ((q2 &&& (3 : Int64)) - (1 : Int64))) q0) (9223372036854775807 : Int64)))])) _
            refine XS.lload X70.here hx rfl (hb hby at_134) rfl ?_
            show Steps p.tables e below (T70.setTop (mkF m 136 #[.val (.long q0), .second, .val (.long q1), .second, .val (.long q2), .second, .val (.int p3), .val (.int (1 : Int32)), .val (.int (((p3.toUInt32 >>> ((1 : Int32) &&& 31).toUInt32).toInt32) &&& (3 : Int32))), .val (.long ((q2 &&& (3 : Int64)) - (1 : Int64))), .second, .val (.long (q1 + ((q2 &&& (3 : Int64)) - (1 : Int64)))), .second, .val .null, .val (.ref b65), .val (.int (alN q0 (q1 + ((q2 &&& (3 : Int64)) - (1 : Int64))))), .val (.long (9223372036854775807 : Int64)), .second, .unset] [(.long (q1 + ((q2 &&& (3 : Int64)) - (1 : Int64)))), (.long (mnL (mxL (q1 + ((q2 &&& (3 : Int64)) - (1 : Int64))) q0) (9223372036854775807 : Int64)))])) _
            refine XS.lcmp X70.here hx rfl (hb hby at_136) rfl ?_
            exact k
          by_cases hc71 : (lcmpW (mnL (mxL (q1 + ((q2 &&& (3 : Int64)) - (1 : Int64))) q0) (9223372036854775807 : Int64)) (q1 + ((q2 &&& (3 : Int64)) - (1 : Int64)))) = (0 : Int32)
          · -- hc71: yes
            refine own_go (A' := (T70.setTop (mkF m 140 #[.val (.long q0), .second, .val (.long q1), .second, .val (.long q2), .second, .val (.int p3), .val (.int (1 : Int32)), .val (.int (((p3.toUInt32 >>> ((1 : Int32) &&& 31).toUInt32).toInt32) &&& (3 : Int32))), .val (.long ((q2 &&& (3 : Int64)) - (1 : Int64))), .second, .val (.long (q1 + ((q2 &&& (3 : Int64)) - (1 : Int64)))), .second, .val .null, .val (.ref b65), .val (.int (alN q0 (q1 + ((q2 &&& (3 : Int64)) - (1 : Int64))))), .val (.long (9223372036854775807 : Int64)), .second, .unset] []))) (fun t k => XS.ifNo X70.here hx rfl (hb hby at_137) rfl ((if0 _ _).trans (teq hc71).2) k) ?_
            refine own_go (A' := (T70.setTop (mkF m 151 #[.val (.long q0), .second, .val (.long q1), .second, .val (.long q2), .second, .val (.int p3), .val (.int (1 : Int32)), .val (.int (((p3.toUInt32 >>> ((1 : Int32) &&& 31).toUInt32).toInt32) &&& (3 : Int32))), .val (.long ((q2 &&& (3 : Int64)) - (1 : Int64))), .second, .val (.long (q1 + ((q2 &&& (3 : Int64)) - (1 : Int64)))), .second, .val .null, .val (.ref b65), .val (.int (alN q0 (q1 + ((q2 &&& (3 : Int64)) - (1 : Int64))))), .val (.long (9223372036854775807 : Int64)), .second, .val (.int (1 : Int32))] [(.int (1 : Int32)), (.int (alN q0 (q1 + ((q2 &&& (3 : Int64)) - (1 : Int64)))))]))) (fun t k => ?_) ?_
            · show Steps p.tables e below (T70.setTop (mkF m 140 #[.val (.long q0), .second, .val (.long q1), .second, .val (.long q2), .second, .val (.int p3), .val (.int (1 : Int32)), .val (.int (((p3.toUInt32 >>> ((1 : Int32) &&& 31).toUInt32).toInt32) &&& (3 : Int32))), .val (.long ((q2 &&& (3 : Int64)) - (1 : Int64))), .second, .val (.long (q1 + ((q2 &&& (3 : Int64)) - (1 : Int64)))), .second, .val .null, .val (.ref b65), .val (.int (alN q0 (q1 + ((q2 &&& (3 : Int64)) - (1 : Int64))))), .val (.long (9223372036854775807 : Int64)), .second, .unset] [])) _
              refine XS.iconst X70.here hx rfl (hb hby at_140) ?_
              show Steps p.tables e below (T70.setTop (mkF m 141 #[.val (.long q0), .second, .val (.long q1), .second, .val (.long q2), .second, .val (.int p3), .val (.int (1 : Int32)), .val (.int (((p3.toUInt32 >>> ((1 : Int32) &&& 31).toUInt32).toInt32) &&& (3 : Int32))), .val (.long ((q2 &&& (3 : Int64)) - (1 : Int64))), .second, .val (.long (q1 + ((q2 &&& (3 : Int64)) - (1 : Int64)))), .second, .val .null, .val (.ref b65), .val (.int (alN q0 (q1 + ((q2 &&& (3 : Int64)) - (1 : Int64))))), .val (.long (9223372036854775807 : Int64)), .second, .unset] [(.int (1 : Int32))])) _
              refine XS.goto X70.here hx rfl (pc0 := 141) (pc' := 145) rfl (hb hby at_141) (by decide) (by decide) ?_
              show Steps p.tables e below (T70.setTop (mkF m 145 #[.val (.long q0), .second, .val (.long q1), .second, .val (.long q2), .second, .val (.int p3), .val (.int (1 : Int32)), .val (.int (((p3.toUInt32 >>> ((1 : Int32) &&& 31).toUInt32).toInt32) &&& (3 : Int32))), .val (.long ((q2 &&& (3 : Int64)) - (1 : Int64))), .second, .val (.long (q1 + ((q2 &&& (3 : Int64)) - (1 : Int64)))), .second, .val .null, .val (.ref b65), .val (.int (alN q0 (q1 + ((q2 &&& (3 : Int64)) - (1 : Int64))))), .val (.long (9223372036854775807 : Int64)), .second, .unset] [(.int (1 : Int32))])) _
              refine XS.istore X70.here hx rfl (hb hby at_145) rfl (l' := #[.val (.long q0), .second, .val (.long q1), .second, .val (.long q2), .second, .val (.int p3), .val (.int (1 : Int32)), .val (.int (((p3.toUInt32 >>> ((1 : Int32) &&& 31).toUInt32).toInt32) &&& (3 : Int32))), .val (.long ((q2 &&& (3 : Int64)) - (1 : Int64))), .second, .val (.long (q1 + ((q2 &&& (3 : Int64)) - (1 : Int64)))), .second, .val .null, .val (.ref b65), .val (.int (alN q0 (q1 + ((q2 &&& (3 : Int64)) - (1 : Int64))))), .val (.long (9223372036854775807 : Int64)), .second, .val (.int (1 : Int32))]) rfl ?_
              show Steps p.tables e below (T70.setTop (mkF m 147 #[.val (.long q0), .second, .val (.long q1), .second, .val (.long q2), .second, .val (.int p3), .val (.int (1 : Int32)), .val (.int (((p3.toUInt32 >>> ((1 : Int32) &&& 31).toUInt32).toInt32) &&& (3 : Int32))), .val (.long ((q2 &&& (3 : Int64)) - (1 : Int64))), .second, .val (.long (q1 + ((q2 &&& (3 : Int64)) - (1 : Int64)))), .second, .val .null, .val (.ref b65), .val (.int (alN q0 (q1 + ((q2 &&& (3 : Int64)) - (1 : Int64))))), .val (.long (9223372036854775807 : Int64)), .second, .val (.int (1 : Int32))] [])) _
              refine XS.iload X70.here hx rfl (hb hby at_147) rfl ?_
              show Steps p.tables e below (T70.setTop (mkF m 149 #[.val (.long q0), .second, .val (.long q1), .second, .val (.long q2), .second, .val (.int p3), .val (.int (1 : Int32)), .val (.int (((p3.toUInt32 >>> ((1 : Int32) &&& 31).toUInt32).toInt32) &&& (3 : Int32))), .val (.long ((q2 &&& (3 : Int64)) - (1 : Int64))), .second, .val (.long (q1 + ((q2 &&& (3 : Int64)) - (1 : Int64)))), .second, .val .null, .val (.ref b65), .val (.int (alN q0 (q1 + ((q2 &&& (3 : Int64)) - (1 : Int64))))), .val (.long (9223372036854775807 : Int64)), .second, .val (.int (1 : Int32))] [(.int (alN q0 (q1 + ((q2 &&& (3 : Int64)) - (1 : Int64)))))])) _
              refine XS.iload X70.here hx rfl (hb hby at_149) rfl ?_
              exact k
            refine own_go (A' := (T70.setTop (mkF m 154 #[.val (.long q0), .second, .val (.long q1), .second, .val (.long q2), .second, .val (.int p3), .val (.int (1 : Int32)), .val (.int (((p3.toUInt32 >>> ((1 : Int32) &&& 31).toUInt32).toInt32) &&& (3 : Int32))), .val (.long ((q2 &&& (3 : Int64)) - (1 : Int64))), .second, .val (.long (q1 + ((q2 &&& (3 : Int64)) - (1 : Int64)))), .second, .val .null, .val (.ref b65), .val (.int (alN q0 (q1 + ((q2 &&& (3 : Int64)) - (1 : Int64))))), .val (.long (9223372036854775807 : Int64)), .second, .val (.int (1 : Int32))] []))) (fun t k => XS.icmpNo X70.here hx rfl (hb hby at_151) rfl (teq ((own_alN _ _).trans (own_B hc68 hc71))).2 k) ?_
            refine own_go (A' := (T70.setTop (mkF m 159 #[.val (.long q0), .second, .val (.long q1), .second, .val (.long q2), .second, .val (.int p3), .val (.int (1 : Int32)), .val (.int (((p3.toUInt32 >>> ((1 : Int32) &&& 31).toUInt32).toInt32) &&& (3 : Int32))), .val (.long ((q2 &&& (3 : Int64)) - (1 : Int64))), .second, .val (.long (q1 + ((q2 &&& (3 : Int64)) - (1 : Int64)))), .second, .val .null, .val (.ref b65), .val (.int (alN q0 (q1 + ((q2 &&& (3 : Int64)) - (1 : Int64))))), .val (.long (9223372036854775807 : Int64)), .second, .val (.int (1 : Int32))] [(.int (1 : Int32))]))) (fun t k => ?_) ?_
            · show Steps p.tables e below (T70.setTop (mkF m 154 #[.val (.long q0), .second, .val (.long q1), .second, .val (.long q2), .second, .val (.int p3), .val (.int (1 : Int32)), .val (.int (((p3.toUInt32 >>> ((1 : Int32) &&& 31).toUInt32).toInt32) &&& (3 : Int32))), .val (.long ((q2 &&& (3 : Int64)) - (1 : Int64))), .second, .val (.long (q1 + ((q2 &&& (3 : Int64)) - (1 : Int64)))), .second, .val .null, .val (.ref b65), .val (.int (alN q0 (q1 + ((q2 &&& (3 : Int64)) - (1 : Int64))))), .val (.long (9223372036854775807 : Int64)), .second, .val (.int (1 : Int32))] [])) _
              refine XS.iconst X70.here hx rfl (hb hby at_154) ?_
              show Steps p.tables e below (T70.setTop (mkF m 155 #[.val (.long q0), .second, .val (.long q1), .second, .val (.long q2), .second, .val (.int p3), .val (.int (1 : Int32)), .val (.int (((p3.toUInt32 >>> ((1 : Int32) &&& 31).toUInt32).toInt32) &&& (3 : Int32))), .val (.long ((q2 &&& (3 : Int64)) - (1 : Int64))), .second, .val (.long (q1 + ((q2 &&& (3 : Int64)) - (1 : Int64)))), .second, .val .null, .val (.ref b65), .val (.int (alN q0 (q1 + ((q2 &&& (3 : Int64)) - (1 : Int64))))), .val (.long (9223372036854775807 : Int64)), .second, .val (.int (1 : Int32))] [(.int (1 : Int32))])) _
              refine XS.goto X70.here hx rfl (pc0 := 155) (pc' := 159) rfl (hb hby at_155) (by decide) (by decide) ?_
              exact k
            obtain ⟨fs, hr, hrun, hended, hW, hsame⟩ := X70.leave (v := some (.int (1 : Int32))) (fun h => by rw [Bd.returns] at h; cases h) hlk
            refine ⟨_, _, ?_, hrun, hended, _, _, rfl, ?_, ⟨_, rfl⟩, hW, hsame.mono (by decide) (by decide)⟩
            · show Steps p.tables e below (T70.setTop (mkF m 159 #[.val (.long q0), .second, .val (.long q1), .second, .val (.long q2), .second, .val (.int p3), .val (.int (1 : Int32)), .val (.int (((p3.toUInt32 >>> ((1 : Int32) &&& 31).toUInt32).toInt32) &&& (3 : Int32))), .val (.long ((q2 &&& (3 : Int64)) - (1 : Int64))), .second, .val (.long (q1 + ((q2 &&& (3 : Int64)) - (1 : Int64)))), .second, .val .null, .val (.ref b65), .val (.int (alN q0 (q1 + ((q2 &&& (3 : Int64)) - (1 : Int64))))), .val (.long (9223372036854775807 : Int64)), .second, .val (.int (1 : Int32))] [(.int (1 : Int32))])) _
              exact retN X70 hx (t := .boolean) Bd.returns (by simp) (hb hby at_159) hr
            · show Q0 Z q0 q1 q2 p3 wC clC h0 n0 _ T70.heap _
              exact ⟨rfl, N70⟩
          · -- hc71: no
            refine own_go (A' := (T70.setTop (mkF m 144 #[.val (.long q0), .second, .val (.long q1), .second, .val (.long q2), .second, .val (.int p3), .val (.int (1 : Int32)), .val (.int (((p3.toUInt32 >>> ((1 : Int32) &&& 31).toUInt32).toInt32) &&& (3 : Int32))), .val (.long ((q2 &&& (3 : Int64)) - (1 : Int64))), .second, .val (.long (q1 + ((q2 &&& (3 : Int64)) - (1 : Int64)))), .second, .val .null, .val (.ref b65), .val (.int (alN q0 (q1 + ((q2 &&& (3 : Int64)) - (1 : Int64))))), .val (.long (9223372036854775807 : Int64)), .second, .unset] []))) (fun t k => XS.ifYes X70.here hx rfl (pc0 := 137) (pc' := 144) rfl (hb hby at_137) rfl ((if0 _ _).trans (feq hc71).2) (by decide) (by decide) k) ?_
            refine own_go (A' := (T70.setTop (mkF m 151 #[.val (.long q0), .second, .val (.long q1), .second, .val (.long q2), .second, .val (.int p3), .val (.int (1 : Int32)), .val (.int (((p3.toUInt32 >>> ((1 : Int32) &&& 31).toUInt32).toInt32) &&& (3 : Int32))), .val (.long ((q2 &&& (3 : Int64)) - (1 : Int64))), .second, .val (.long (q1 + ((q2 &&& (3 : Int64)) - (1 : Int64)))), .second, .val .null, .val (.ref b65), .val (.int (alN q0 (q1 + ((q2 &&& (3 : Int64)) - (1 : Int64))))), .val (.long (9223372036854775807 : Int64)), .second, .val (.int (0 : Int32))] [(.int (0 : Int32)), (.int (alN q0 (q1 + ((q2 &&& (3 : Int64)) - (1 : Int64)))))]))) (fun t k => ?_) ?_
            · show Steps p.tables e below (T70.setTop (mkF m 144 #[.val (.long q0), .second, .val (.long q1), .second, .val (.long q2), .second, .val (.int p3), .val (.int (1 : Int32)), .val (.int (((p3.toUInt32 >>> ((1 : Int32) &&& 31).toUInt32).toInt32) &&& (3 : Int32))), .val (.long ((q2 &&& (3 : Int64)) - (1 : Int64))), .second, .val (.long (q1 + ((q2 &&& (3 : Int64)) - (1 : Int64)))), .second, .val .null, .val (.ref b65), .val (.int (alN q0 (q1 + ((q2 &&& (3 : Int64)) - (1 : Int64))))), .val (.long (9223372036854775807 : Int64)), .second, .unset] [])) _
              refine XS.iconst X70.here hx rfl (hb hby at_144) ?_
              show Steps p.tables e below (T70.setTop (mkF m 145 #[.val (.long q0), .second, .val (.long q1), .second, .val (.long q2), .second, .val (.int p3), .val (.int (1 : Int32)), .val (.int (((p3.toUInt32 >>> ((1 : Int32) &&& 31).toUInt32).toInt32) &&& (3 : Int32))), .val (.long ((q2 &&& (3 : Int64)) - (1 : Int64))), .second, .val (.long (q1 + ((q2 &&& (3 : Int64)) - (1 : Int64)))), .second, .val .null, .val (.ref b65), .val (.int (alN q0 (q1 + ((q2 &&& (3 : Int64)) - (1 : Int64))))), .val (.long (9223372036854775807 : Int64)), .second, .unset] [(.int (0 : Int32))])) _
              refine XS.istore X70.here hx rfl (hb hby at_145) rfl (l' := #[.val (.long q0), .second, .val (.long q1), .second, .val (.long q2), .second, .val (.int p3), .val (.int (1 : Int32)), .val (.int (((p3.toUInt32 >>> ((1 : Int32) &&& 31).toUInt32).toInt32) &&& (3 : Int32))), .val (.long ((q2 &&& (3 : Int64)) - (1 : Int64))), .second, .val (.long (q1 + ((q2 &&& (3 : Int64)) - (1 : Int64)))), .second, .val .null, .val (.ref b65), .val (.int (alN q0 (q1 + ((q2 &&& (3 : Int64)) - (1 : Int64))))), .val (.long (9223372036854775807 : Int64)), .second, .val (.int (0 : Int32))]) rfl ?_
              show Steps p.tables e below (T70.setTop (mkF m 147 #[.val (.long q0), .second, .val (.long q1), .second, .val (.long q2), .second, .val (.int p3), .val (.int (1 : Int32)), .val (.int (((p3.toUInt32 >>> ((1 : Int32) &&& 31).toUInt32).toInt32) &&& (3 : Int32))), .val (.long ((q2 &&& (3 : Int64)) - (1 : Int64))), .second, .val (.long (q1 + ((q2 &&& (3 : Int64)) - (1 : Int64)))), .second, .val .null, .val (.ref b65), .val (.int (alN q0 (q1 + ((q2 &&& (3 : Int64)) - (1 : Int64))))), .val (.long (9223372036854775807 : Int64)), .second, .val (.int (0 : Int32))] [])) _
              refine XS.iload X70.here hx rfl (hb hby at_147) rfl ?_
              show Steps p.tables e below (T70.setTop (mkF m 149 #[.val (.long q0), .second, .val (.long q1), .second, .val (.long q2), .second, .val (.int p3), .val (.int (1 : Int32)), .val (.int (((p3.toUInt32 >>> ((1 : Int32) &&& 31).toUInt32).toInt32) &&& (3 : Int32))), .val (.long ((q2 &&& (3 : Int64)) - (1 : Int64))), .second, .val (.long (q1 + ((q2 &&& (3 : Int64)) - (1 : Int64)))), .second, .val .null, .val (.ref b65), .val (.int (alN q0 (q1 + ((q2 &&& (3 : Int64)) - (1 : Int64))))), .val (.long (9223372036854775807 : Int64)), .second, .val (.int (0 : Int32))] [(.int (alN q0 (q1 + ((q2 &&& (3 : Int64)) - (1 : Int64)))))])) _
              refine XS.iload X70.here hx rfl (hb hby at_149) rfl ?_
              exact k
            refine own_go (A' := (T70.setTop (mkF m 154 #[.val (.long q0), .second, .val (.long q1), .second, .val (.long q2), .second, .val (.int p3), .val (.int (1 : Int32)), .val (.int (((p3.toUInt32 >>> ((1 : Int32) &&& 31).toUInt32).toInt32) &&& (3 : Int32))), .val (.long ((q2 &&& (3 : Int64)) - (1 : Int64))), .second, .val (.long (q1 + ((q2 &&& (3 : Int64)) - (1 : Int64)))), .second, .val .null, .val (.ref b65), .val (.int (alN q0 (q1 + ((q2 &&& (3 : Int64)) - (1 : Int64))))), .val (.long (9223372036854775807 : Int64)), .second, .val (.int (0 : Int32))] []))) (fun t k => XS.icmpNo X70.here hx rfl (hb hby at_151) rfl (teq ((own_alN _ _).trans (own_C hc68 hc71))).2 k) ?_
            refine own_go (A' := (T70.setTop (mkF m 159 #[.val (.long q0), .second, .val (.long q1), .second, .val (.long q2), .second, .val (.int p3), .val (.int (1 : Int32)), .val (.int (((p3.toUInt32 >>> ((1 : Int32) &&& 31).toUInt32).toInt32) &&& (3 : Int32))), .val (.long ((q2 &&& (3 : Int64)) - (1 : Int64))), .second, .val (.long (q1 + ((q2 &&& (3 : Int64)) - (1 : Int64)))), .second, .val .null, .val (.ref b65), .val (.int (alN q0 (q1 + ((q2 &&& (3 : Int64)) - (1 : Int64))))), .val (.long (9223372036854775807 : Int64)), .second, .val (.int (0 : Int32))] [(.int (1 : Int32))]))) (fun t k => ?_) ?_
            · show Steps p.tables e below (T70.setTop (mkF m 154 #[.val (.long q0), .second, .val (.long q1), .second, .val (.long q2), .second, .val (.int p3), .val (.int (1 : Int32)), .val (.int (((p3.toUInt32 >>> ((1 : Int32) &&& 31).toUInt32).toInt32) &&& (3 : Int32))), .val (.long ((q2 &&& (3 : Int64)) - (1 : Int64))), .second, .val (.long (q1 + ((q2 &&& (3 : Int64)) - (1 : Int64)))), .second, .val .null, .val (.ref b65), .val (.int (alN q0 (q1 + ((q2 &&& (3 : Int64)) - (1 : Int64))))), .val (.long (9223372036854775807 : Int64)), .second, .val (.int (0 : Int32))] [])) _
              refine XS.iconst X70.here hx rfl (hb hby at_154) ?_
              show Steps p.tables e below (T70.setTop (mkF m 155 #[.val (.long q0), .second, .val (.long q1), .second, .val (.long q2), .second, .val (.int p3), .val (.int (1 : Int32)), .val (.int (((p3.toUInt32 >>> ((1 : Int32) &&& 31).toUInt32).toInt32) &&& (3 : Int32))), .val (.long ((q2 &&& (3 : Int64)) - (1 : Int64))), .second, .val (.long (q1 + ((q2 &&& (3 : Int64)) - (1 : Int64)))), .second, .val .null, .val (.ref b65), .val (.int (alN q0 (q1 + ((q2 &&& (3 : Int64)) - (1 : Int64))))), .val (.long (9223372036854775807 : Int64)), .second, .val (.int (0 : Int32))] [(.int (1 : Int32))])) _
              refine XS.goto X70.here hx rfl (pc0 := 155) (pc' := 159) rfl (hb hby at_155) (by decide) (by decide) ?_
              exact k
            obtain ⟨fs, hr, hrun, hended, hW, hsame⟩ := X70.leave (v := some (.int (1 : Int32))) (fun h => by rw [Bd.returns] at h; cases h) hlk
            refine ⟨_, _, ?_, hrun, hended, _, _, rfl, ?_, ⟨_, rfl⟩, hW, hsame.mono (by decide) (by decide)⟩
            · show Steps p.tables e below (T70.setTop (mkF m 159 #[.val (.long q0), .second, .val (.long q1), .second, .val (.long q2), .second, .val (.int p3), .val (.int (1 : Int32)), .val (.int (((p3.toUInt32 >>> ((1 : Int32) &&& 31).toUInt32).toInt32) &&& (3 : Int32))), .val (.long ((q2 &&& (3 : Int64)) - (1 : Int64))), .second, .val (.long (q1 + ((q2 &&& (3 : Int64)) - (1 : Int64)))), .second, .val .null, .val (.ref b65), .val (.int (alN q0 (q1 + ((q2 &&& (3 : Int64)) - (1 : Int64))))), .val (.long (9223372036854775807 : Int64)), .second, .val (.int (0 : Int32))] [(.int (1 : Int32))])) _
              exact retN X70 hx (t := .boolean) Bd.returns (by simp) (hb hby at_159) hr
            · show Q0 Z q0 q1 q2 p3 wC clC h0 n0 _ T70.heap _
              exact ⟨rfl, N70⟩
      · -- hc64: no
        refine own_go (A' := (s₁.setTop (mkF m 62 #[.val (.long q0), .second, .val (.long q1), .second, .val (.long q2), .second, .val (.int p3), .val (.int (1 : Int32)), .val (.int (((p3.toUInt32 >>> ((1 : Int32) &&& 31).toUInt32).toInt32) &&& (3 : Int32))), .val (.long ((q2 &&& (3 : Int64)) - (1 : Int64))), .second, .unset, .unset, .unset, .unset, .unset, .unset, .unset, .unset] []))) (fun t k => XS.icmpYes X0.here hx rfl (pc0 := 50) (pc' := 62) rfl (hb hby at_50) rfl (feq hc64).2 (by decide) (by decide) k) ?_
        refine own_go (A' := (s₁.setTop (mkF m 68 #[.val (.long q0), .second, .val (.long q1), .second, .val (.long q2), .second, .val (.int p3), .val (.int (1 : Int32)), .val (.int (((p3.toUInt32 >>> ((1 : Int32) &&& 31).toUInt32).toInt32) &&& (3 : Int32))), .val (.long ((q2 &&& (3 : Int64)) - (1 : Int64))), .second, .val (.long q2), .second, .unset, .unset, .unset, .unset, .unset, .unset] [(.int (1 : Int32))]))) (fun t k => ?_) ?_
        · show Steps p.tables e below (s₁.setTop (mkF m 62 #[.val (.long q0), .second, .val (.long q1), .second, .val (.long q2), .second, .val (.int p3), .val (.int (1 : Int32)), .val (.int (((p3.toUInt32 >>> ((1 : Int32) &&& 31).toUInt32).toInt32) &&& (3 : Int32))), .val (.long ((q2 &&& (3 : Int64)) - (1 : Int64))), .second, .unset, .unset, .unset, .unset, .unset, .unset, .unset, .unset] [])) _
          refine XS.lload X0.here hx rfl (hb hby at_62) rfl ?_
          show Steps p.tables e below (s₁.setTop (mkF m 64 #[.val (.long q0), .second, .val (.long q1), .second, .val (.long q2), .second, .val (.int p3), .val (.int (1 : Int32)), .val (.int (((p3.toUInt32 >>> ((1 : Int32) &&& 31).toUInt32).toInt32) &&& (3 : Int32))), .val (.long ((q2 &&& (3 : Int64)) - (1 : Int64))), .second, .unset, .unset, .unset, .unset, .unset, .unset, .unset, .unset] [(.long q2)])) _
          refine XS.lstore X0.here hx rfl (hb hby at_64) rfl (l' := #[.val (.long q0), .second, .val (.long q1), .second, .val (.long q2), .second, .val (.int p3), .val (.int (1 : Int32)), .val (.int (((p3.toUInt32 >>> ((1 : Int32) &&& 31).toUInt32).toInt32) &&& (3 : Int32))), .val (.long ((q2 &&& (3 : Int64)) - (1 : Int64))), .second, .val (.long q2), .second, .unset, .unset, .unset, .unset, .unset, .unset]) rfl ?_
          show Steps p.tables e below (s₁.setTop (mkF m 66 #[.val (.long q0), .second, .val (.long q1), .second, .val (.long q2), .second, .val (.int p3), .val (.int (1 : Int32)), .val (.int (((p3.toUInt32 >>> ((1 : Int32) &&& 31).toUInt32).toInt32) &&& (3 : Int32))), .val (.long ((q2 &&& (3 : Int64)) - (1 : Int64))), .second, .val (.long q2), .second, .unset, .unset, .unset, .unset, .unset, .unset] [])) _
          refine XS.iload X0.here hx rfl (hb hby at_66) rfl ?_
          exact k
        refine own_go (A' := (s₁.setTop (mkF m 71 #[.val (.long q0), .second, .val (.long q1), .second, .val (.long q2), .second, .val (.int p3), .val (.int (1 : Int32)), .val (.int (((p3.toUInt32 >>> ((1 : Int32) &&& 31).toUInt32).toInt32) &&& (3 : Int32))), .val (.long ((q2 &&& (3 : Int64)) - (1 : Int64))), .second, .val (.long q2), .second, .unset, .unset, .unset, .unset, .unset, .unset] []))) (fun t k => XS.ifNo X0.here hx rfl (hb hby at_68) rfl ((if0 _ _).trans (feq (by decide : ¬ ((1 : Int32) = (0 : Int32)))).1) k) ?_
        obtain ⟨T72, h72, X72, e72, E72, A72, D72, -, st72⟩ := newO X0 hx hZ hown (hw _ (List.mem_of_getElem? (i := 9) rfl)) (hw _ (List.mem_of_getElem? (i := 10) rfl)) (hw _ (List.mem_of_getElem? (i := 11) rfl)) e0 (g := (mkF m 81 #[.val (.long q0), .second, .val (.long q1), .second, .val (.long q2), .second, .val (.int p3), .val (.int (1 : Int32)), .val (.int (((p3.toUInt32 >>> ((1 : Int32) &&& 31).toUInt32).toInt32) &&& (3 : Int32))), .val (.long ((q2 &&& (3 : Int64)) - (1 : Int64))), .second, .val (.long q2), .second, .val .null, .unset, .unset, .unset, .unset, .unset] [])) rfl (hb hby at_81) (by decide) (by decide)
        obtain ⟨b72, g72⟩ : ∃ z, z = h0.size := ⟨_, rfl⟩
        have sz_b72 : h0.size ≤ b72 := Nat.le_of_eq g72.symm
        rw [← g72] at A72 D72 st72
        have K72 : Keep h0 h72 [] := (Keep.refl h0 []).ext E72
        have B72 : Ext h0 h72 := own_keep_ext K72
        have F72_min : Fld Z h72 b72 "com/example/lading/lading/core/Occurrence" "min" "J" (.long (0 : Int64)) := D72 (Or.inr (hw _ (List.mem_of_getElem? (i := 19) rfl))) (ty := .long) (by decide)
        have F72_max : Fld Z h72 b72 "com/example/lading/lading/core/Occurrence" "max" "Ljava/lang/Long;" .null := D72 (Or.inr (hw _ (List.mem_of_getElem? (i := 21) rfl))) (ty := (.object "java/lang/Long")) (by decide)
        obtain ⟨_, _, ⟨T73, L73, k73, n73⟩, -, X73, ⟨Lc73, hQ73, l73, y73, z73⟩, st73⟩ := X72.specialBack hx (y := (⟨"com/example/lading/lading/core/Occurrence", "<init>", "(JLjava/lang/Long;)V"⟩ : MethodName)) rfl hown (mvT hZ (hw _ (List.mem_of_getElem? (i := 12) rfl))) (mvT hZ (hw _ (List.mem_of_getElem? (i := 13) rfl))) (mvT hZ (hw _ (List.mem_of_getElem? (i := 14) rfl))) (by decide) (backOf (W := 1) (rm2n l Z a0 hw [] b72 q0  h72 n0 (Nat.le_trans Z0 K72.1) A72 F72_min F72_max (Nat.le_trans Z0 sz_b72)) hZ (hw _ (List.mem_of_getElem? (i := 14) rfl)) (hw _ (List.mem_of_getElem? (i := 11) rfl)) (by decide) (by decide)) (g := (mkF m 88 #[.val (.long q0), .second, .val (.long q1), .second, .val (.long q2), .second, .val (.int p3), .val (.int (1 : Int32)), .val (.int (((p3.toUInt32 >>> ((1 : Int32) &&& 31).toUInt32).toInt32) &&& (3 : Int32))), .val (.long ((q2 &&& (3 : Int64)) - (1 : Int64))), .second, .val (.long q2), .second, .val .null, .unset, .unset, .unset, .unset, .unset] [.null, (.long q0), (.ref b72), (.ref b72)])) rfl (by rw [hml]; rfl) (Steps.refl _) (a := b72) (argsL := [(.long q0), .null]) (rest := [(.ref b72)]) (lenOf pd_4 rfl) rfl (by show 2 * 0 + _ ≤ _; exact Nat.le_of_eq rfl) (hb hby at_88) (fun _ _ => ⟨rfl, e72, (by decide : 1 + 0 ≤ _), (by decide : 2 + 0 ≤ _)⟩)
        dsimp only [Pt.U, Pt.locs, Pt.cells, Pt.slots] at X73 l73 y73 z73 st73 hQ73
        subst l73 y73 z73
        obtain ⟨rfl, N73q, K73q, E73q, F73q, G73q⟩ := hQ73
        have N73 := Fr.app N0 N73q
        have K73 : Keep h0 T73.heap [] := K72.trans K73q (allS (Or.inr sz_b72) all0)
        have B73 : Ext h0 T73.heap := own_keep_ext K73
        obtain ⟨cq74, kq74, q74a, q74b, q74c⟩ := isOf hZ rfl E73q
        obtain ⟨_, _, ⟨T74, L74, k74, n74⟩, -, X74, ⟨Lc74, hQ74, l74, y74, z74⟩, st74⟩ := X73.virtualBack hx (y := (⟨"com/example/lading/lading/core/Occurrence", "allows", "(J)Z"⟩ : MethodName)) (z := (⟨"com/example/lading/lading/core/Occurrence", "allows", "(J)Z"⟩ : MethodName)) hown (mvT hZ (hw _ (List.mem_of_getElem? (i := 22) rfl))) (mvT hZ (hw _ (List.mem_of_getElem? (i := 23) rfl))) (notFace_of_selects (args := #[]) (mvT hZ (hw _ (List.mem_of_getElem? (i := 25) rfl)))) (mvT hZ (hw _ (List.mem_of_getElem? (i := 25) rfl))) (mvT hZ (hw _ (List.mem_of_getElem? (i := 24) rfl))) (by decide) (backOf (W := 0) (rm4n l Z a0 hw [] b72 q2 q0 T73.heap n0 (Nat.le_trans Z0 K73.1) F73q G73q) hZ (hw _ (List.mem_of_getElem? (i := 26) rfl)) (hw _ (List.mem_of_getElem? (i := 11) rfl)) (by decide) (by decide)) q74a q74c (g := (mkF m 97 #[.val (.long q0), .second, .val (.long q1), .second, .val (.long q2), .second, .val (.int p3), .val (.int (1 : Int32)), .val (.int (((p3.toUInt32 >>> ((1 : Int32) &&& 31).toUInt32).toInt32) &&& (3 : Int32))), .val (.long ((q2 &&& (3 : Int64)) - (1 : Int64))), .second, .val (.long q2), .second, .val .null, .val (.ref b72), .unset, .unset, .unset, .unset] [(.long q2), (.ref b72)])) rfl (by rw [hml]; rfl) (Steps.refl _) (argsL := [(.long q2)]) (rest := []) (lenOf pd_5 rfl) rfl (by show 2 * 0 + _ ≤ _; exact Nat.le_of_eq rfl) (hb hby at_97) (fun _ _ => ⟨rfl, rfl, (by decide : 1 + 0 ≤ _), (by decide : 2 + 0 ≤ _)⟩)
        dsimp only [Pt.U, Pt.locs, Pt.cells, Pt.slots] at X74 l74 y74 z74 st74 hQ74
        subst l74 y74 z74
        obtain ⟨rfl, N74q, e74⟩ := hQ74
        have N74 := Fr.app N73 N74q
        refine own_go (A' := (T74.setTop (mkF m 104 #[.val (.long q0), .second, .val (.long q1), .second, .val (.long q2), .second, .val (.int p3), .val (.int (1 : Int32)), .val (.int (((p3.toUInt32 >>> ((1 : Int32) &&& 31).toUInt32).toInt32) &&& (3 : Int32))), .val (.long ((q2 &&& (3 : Int64)) - (1 : Int64))), .second, .val (.long q2), .second, .val .null, .val (.ref b72), .val (.int (alN q0 q2)), .unset, .unset, .unset] [(.int (1 : Int32))]))) (fun t k => ?_) ?_
        · show Steps p.tables e below (s₁.setTop (mkF m 71 #[.val (.long q0), .second, .val (.long q1), .second, .val (.long q2), .second, .val (.int p3), .val (.int (1 : Int32)), .val (.int (((p3.toUInt32 >>> ((1 : Int32) &&& 31).toUInt32).toInt32) &&& (3 : Int32))), .val (.long ((q2 &&& (3 : Int64)) - (1 : Int64))), .second, .val (.long q2), .second, .unset, .unset, .unset, .unset, .unset, .unset] [])) _
          refine XS.aconstNull X0.here hx rfl (hb hby at_71) ?_
          show Steps p.tables e below (s₁.setTop (mkF m 72 #[.val (.long q0), .second, .val (.long q1), .second, .val (.long q2), .second, .val (.int p3), .val (.int (1 : Int32)), .val (.int (((p3.toUInt32 >>> ((1 : Int32) &&& 31).toUInt32).toInt32) &&& (3 : Int32))), .val (.long ((q2 &&& (3 : Int64)) - (1 : Int64))), .second, .val (.long q2), .second, .unset, .unset, .unset, .unset, .unset, .unset] [.null])) _
          refine XS.goto X0.here hx rfl (pc0 := 72) (pc' := 79) rfl (hb hby at_72) (by decide) (by decide) ?_
          show Steps p.tables e below (s₁.setTop (mkF m 79 #[.val (.long q0), .second, .val (.long q1), .second, .val (.long q2), .second, .val (.int p3), .val (.int (1 : Int32)), .val (.int (((p3.toUInt32 >>> ((1 : Int32) &&& 31).toUInt32).toInt32) &&& (3 : Int32))), .val (.long ((q2 &&& (3 : Int64)) - (1 : Int64))), .second, .val (.long q2), .second, .unset, .unset, .unset, .unset, .unset, .unset] [.null])) _
          refine XS.astore X0.here hx rfl (hb hby at_79) rfl rfl (l' := #[.val (.long q0), .second, .val (.long q1), .second, .val (.long q2), .second, .val (.int p3), .val (.int (1 : Int32)), .val (.int (((p3.toUInt32 >>> ((1 : Int32) &&& 31).toUInt32).toInt32) &&& (3 : Int32))), .val (.long ((q2 &&& (3 : Int64)) - (1 : Int64))), .second, .val (.long q2), .second, .val .null, .unset, .unset, .unset, .unset, .unset]) rfl ?_
          show Steps p.tables e below (s₁.setTop (mkF m 81 #[.val (.long q0), .second, .val (.long q1), .second, .val (.long q2), .second, .val (.int p3), .val (.int (1 : Int32)), .val (.int (((p3.toUInt32 >>> ((1 : Int32) &&& 31).toUInt32).toInt32) &&& (3 : Int32))), .val (.long ((q2 &&& (3 : Int64)) - (1 : Int64))), .second, .val (.long q2), .second, .val .null, .unset, .unset, .unset, .unset, .unset] [])) _
          refine st72 _ ?_
          show Steps p.tables e below (T72.setTop (mkF m 84 #[.val (.long q0), .second, .val (.long q1), .second, .val (.long q2), .second, .val (.int p3), .val (.int (1 : Int32)), .val (.int (((p3.toUInt32 >>> ((1 : Int32) &&& 31).toUInt32).toInt32) &&& (3 : Int32))), .val (.long ((q2 &&& (3 : Int64)) - (1 : Int64))), .second, .val (.long q2), .second, .val .null, .unset, .unset, .unset, .unset, .unset] [(.ref b72)])) _
          refine XS.dup X72.here hx rfl (hb hby at_84) rfl rfl ?_
          show Steps p.tables e below (T72.setTop (mkF m 85 #[.val (.long q0), .second, .val (.long q1), .second, .val (.long q2), .second, .val (.int p3), .val (.int (1 : Int32)), .val (.int (((p3.toUInt32 >>> ((1 : Int32) &&& 31).toUInt32).toInt32) &&& (3 : Int32))), .val (.long ((q2 &&& (3 : Int64)) - (1 : Int64))), .second, .val (.long q2), .second, .val .null, .unset, .unset, .unset, .unset, .unset] [(.ref b72), (.ref b72)])) _
          refine XS.lloadN X72.here hx rfl (hb hby at_85) rfl ?_
          show Steps p.tables e below (T72.setTop (mkF m 86 #[.val (.long q0), .second, .val (.long q1), .second, .val (.long q2), .second, .val (.int p3), .val (.int (1 : Int32)), .val (.int (((p3.toUInt32 >>> ((1 : Int32) &&& 31).toUInt32).toInt32) &&& (3 : Int32))), .val (.long ((q2 &&& (3 : Int64)) - (1 : Int64))), .second, .val (.long q2), .second, .val .null, .unset, .unset, .unset, .unset, .unset] [(.long q0), (.ref b72), (.ref b72)])) _
          refine XS.aload X72.here hx rfl (hb hby at_86) rfl rfl ?_
          show Steps p.tables e below (T72.setTop (mkF m 88 #[.val (.long q0), .second, .val (.long q1), .second, .val (.long q2), .second, .val (.int p3), .val (.int (1 : Int32)), .val (.int (((p3.toUInt32 >>> ((1 : Int32) &&& 31).toUInt32).toInt32) &&& (3 : Int32))), .val (.long ((q2 &&& (3 : Int64)) - (1 : Int64))), .second, .val (.long q2), .second, .val .null, .unset, .unset, .unset, .unset, .unset] [.null, (.long q0), (.ref b72), (.ref b72)])) _
          refine st73.trans ?_
          show Steps p.tables e below (T73.setTop (mkF m 91 #[.val (.long q0), .second, .val (.long q1), .second, .val (.long q2), .second, .val (.int p3), .val (.int (1 : Int32)), .val (.int (((p3.toUInt32 >>> ((1 : Int32) &&& 31).toUInt32).toInt32) &&& (3 : Int32))), .val (.long ((q2 &&& (3 : Int64)) - (1 : Int64))), .second, .val (.long q2), .second, .val .null, .unset, .unset, .unset, .unset, .unset] [(.ref b72)])) _
          refine XS.astore X73.here hx rfl (hb hby at_91) rfl rfl (l' := #[.val (.long q0), .second, .val (.long q1), .second, .val (.long q2), .second, .val (.int p3), .val (.int (1 : Int32)), .val (.int (((p3.toUInt32 >>> ((1 : Int32) &&& 31).toUInt32).toInt32) &&& (3 : Int32))), .val (.long ((q2 &&& (3 : Int64)) - (1 : Int64))), .second, .val (.long q2), .second, .val .null, .val (.ref b72), .unset, .unset, .unset, .unset]) rfl ?_
          show Steps p.tables e below (T73.setTop (mkF m 93 #[.val (.long q0), .second, .val (.long q1), .second, .val (.long q2), .second, .val (.int p3), .val (.int (1 : Int32)), .val (.int (((p3.toUInt32 >>> ((1 : Int32) &&& 31).toUInt32).toInt32) &&& (3 : Int32))), .val (.long ((q2 &&& (3 : Int64)) - (1 : Int64))), .second, .val (.long q2), .second, .val .null, .val (.ref b72), .unset, .unset, .unset, .unset] [])) _
          refine XS.aload X73.here hx rfl (hb hby at_93) rfl rfl ?_
          show Steps p.tables e below (T73.setTop (mkF m 95 #[.val (.long q0), .second, .val (.long q1), .second, .val (.long q2), .second, .val (.int p3), .val (.int (1 : Int32)), .val (.int (((p3.toUInt32 >>> ((1 : Int32) &&& 31).toUInt32).toInt32) &&& (3 : Int32))), .val (.long ((q2 &&& (3 : Int64)) - (1 : Int64))), .second, .val (.long q2), .second, .val .null, .val (.ref b72), .unset, .unset, .unset, .unset] [(.ref b72)])) _
          refine XS.lload X73.here hx rfl (hb hby at_95) rfl ?_
          show Steps p.tables e below (T73.setTop (mkF m 97 #[.val (.long q0), .second, .val (.long q1), .second, .val (.long q2), .second, .val (.int p3), .val (.int (1 : Int32)), .val (.int (((p3.toUInt32 >>> ((1 : Int32) &&& 31).toUInt32).toInt32) &&& (3 : Int32))), .val (.long ((q2 &&& (3 : Int64)) - (1 : Int64))), .second, .val (.long q2), .second, .val .null, .val (.ref b72), .unset, .unset, .unset, .unset] [(.long q2), (.ref b72)])) _
          refine st74.trans ?_
          show Steps p.tables e below (T74.setTop (mkF m 100 #[.val (.long q0), .second, .val (.long q1), .second, .val (.long q2), .second, .val (.int p3), .val (.int (1 : Int32)), .val (.int (((p3.toUInt32 >>> ((1 : Int32) &&& 31).toUInt32).toInt32) &&& (3 : Int32))), .val (.long ((q2 &&& (3 : Int64)) - (1 : Int64))), .second, .val (.long q2), .second, .val .null, .val (.ref b72), .unset, .unset, .unset, .unset] [(.int (alN q0 q2))])) _
          refine XS.istore X74.here hx rfl (hb hby at_100) rfl (l' := #[.val (.long q0), .second, .val (.long q1), .second, .val (.long q2), .second, .val (.int p3), .val (.int (1 : Int32)), .val (.int (((p3.toUInt32 >>> ((1 : Int32) &&& 31).toUInt32).toInt32) &&& (3 : Int32))), .val (.long ((q2 &&& (3 : Int64)) - (1 : Int64))), .second, .val (.long q2), .second, .val .null, .val (.ref b72), .val (.int (alN q0 q2)), .unset, .unset, .unset]) rfl ?_
          show Steps p.tables e below (T74.setTop (mkF m 102 #[.val (.long q0), .second, .val (.long q1), .second, .val (.long q2), .second, .val (.int p3), .val (.int (1 : Int32)), .val (.int (((p3.toUInt32 >>> ((1 : Int32) &&& 31).toUInt32).toInt32) &&& (3 : Int32))), .val (.long ((q2 &&& (3 : Int64)) - (1 : Int64))), .second, .val (.long q2), .second, .val .null, .val (.ref b72), .val (.int (alN q0 q2)), .unset, .unset, .unset] [])) _
          refine XS.iload X74.here hx rfl (hb hby at_102) rfl ?_
          exact k
        refine own_go (A' := (T74.setTop (mkF m 107 #[.val (.long q0), .second, .val (.long q1), .second, .val (.long q2), .second, .val (.int p3), .val (.int (1 : Int32)), .val (.int (((p3.toUInt32 >>> ((1 : Int32) &&& 31).toUInt32).toInt32) &&& (3 : Int32))), .val (.long ((q2 &&& (3 : Int64)) - (1 : Int64))), .second, .val (.long q2), .second, .val .null, .val (.ref b72), .val (.int (alN q0 q2)), .unset, .unset, .unset] []))) (fun t k => XS.ifNo X74.here hx rfl (hb hby at_104) rfl ((if0 _ _).trans (feq (by decide : ¬ ((1 : Int32) = (0 : Int32)))).1) k) ?_
        refine own_go (A' := (T74.setTop (mkF m 120 #[.val (.long q0), .second, .val (.long q1), .second, .val (.long q2), .second, .val (.int p3), .val (.int (1 : Int32)), .val (.int (((p3.toUInt32 >>> ((1 : Int32) &&& 31).toUInt32).toInt32) &&& (3 : Int32))), .val (.long ((q2 &&& (3 : Int64)) - (1 : Int64))), .second, .val (.long q2), .second, .val .null, .val (.ref b72), .val (.int (alN q0 q2)), .val (.long (9223372036854775807 : Int64)), .second, .unset] [(.int (lcmpW q0 (9223372036854775807 : Int64)))]))) (fun t k => ?_) ?_
        · show Steps p.tables e below (T74.setTop (mkF m 107 #[.val (.long q0), .second, .val (.long q1), .second, .val (.long q2), .second, .val (.int p3), .val (.int (1 : Int32)), .val (.int (((p3.toUInt32 >>> ((1 : Int32) &&& 31).toUInt32).toInt32) &&& (3 : Int32))), .val (.long ((q2 &&& (3 : Int64)) - (1 : Int64))), .second, .val (.long q2), .second, .val .null, .val (.ref b72), .val (.int (alN q0 q2)), .unset, .unset, .unset] [])) _
          refine X74.ldc2Long hx hown (mvT hZ (hw _ (List.mem_of_getElem? (i := 54) rfl))) (g := (mkF m 107 #[.val (.long q0), .second, .val (.long q1), .second, .val (.long q2), .second, .val (.int p3), .val (.int (1 : Int32)), .val (.int (((p3.toUInt32 >>> ((1 : Int32) &&& 31).toUInt32).toInt32) &&& (3 : Int32))), .val (.long ((q2 &&& (3 : Int64)) - (1 : Int64))), .second, .val (.long q2), .second, .val .null, .val (.ref b72), .val (.int (alN q0 q2)), .unset, .unset, .unset] [])) rfl (hb hby at_107) _ ?_
          show Steps p.tables e below (T74.setTop (mkF m 110 #[.val (.long q0), .second, .val (.long q1), .second, .val (.long q2), .second, .val (.int p3), .val (.int (1 : Int32)), .val (.int (((p3.toUInt32 >>> ((1 : Int32) &&& 31).toUInt32).toInt32) &&& (3 : Int32))), .val (.long ((q2 &&& (3 : Int64)) - (1 : Int64))), .second, .val (.long q2), .second, .val .null, .val (.ref b72), .val (.int (alN q0 q2)), .unset, .unset, .unset] [(.long (9223372036854775807 : Int64))])) _
          refine XS.goto X74.here hx rfl (pc0 := 110) (pc' := 114) rfl (hb hby at_110) (by decide) (by decide) ?_
          show Steps p.tables e below (T74.setTop (mkF m 114 #[.val (.long q0), .second, .val (.long q1), .second, .val (.long q2), .second, .val (.int p3), .val (.int (1 : Int32)), .val (.int (((p3.toUInt32 >>> ((1 : Int32) &&& 31).toUInt32).toInt32) &&& (3 : Int32))), .val (.long ((q2 &&& (3 : Int64)) - (1 : Int64))), .second, .val (.long q2), .second, .val .null, .val (.ref b72), .val (.int (alN q0 q2)), .unset, .unset, .unset] [(.long (9223372036854775807 : Int64))])) _
          refine XS.lstore X74.here hx rfl (hb hby at_114) rfl (l' := #[.val (.long q0), .second, .val (.long q1), .second, .val (.long q2), .second, .val (.int p3), .val (.int (1 : Int32)), .val (.int (((p3.toUInt32 >>> ((1 : Int32) &&& 31).toUInt32).toInt32) &&& (3 : Int32))), .val (.long ((q2 &&& (3 : Int64)) - (1 : Int64))), .second, .val (.long q2), .second, .val .null, .val (.ref b72), .val (.int (alN q0 q2)), .val (.long (9223372036854775807 : Int64)), .second, .unset]) rfl ?_
          show Steps p.tables e below (T74.setTop (mkF m 116 #[.val (.long q0), .second, .val (.long q1), .second, .val (.long q2), .second, .val (.int p3), .val (.int (1 : Int32)), .val (.int (((p3.toUInt32 >>> ((1 : Int32) &&& 31).toUInt32).toInt32) &&& (3 : Int32))), .val (.long ((q2 &&& (3 : Int64)) - (1 : Int64))), .second, .val (.long q2), .second, .val .null, .val (.ref b72), .val (.int (alN q0 q2)), .val (.long (9223372036854775807 : Int64)), .second, .unset] [])) _
          refine XS.lloadN X74.here hx rfl (hb hby at_116) rfl ?_
          show Steps p.tables e below (T74.setTop (mkF m 117 #[.val (.long q0), .second, .val (.long q1), .second, .val (.long q2), .second, .val (.int p3), .val (.int (1 : Int32)), .val (.int (((p3.toUInt32 >>> ((1 : Int32) &&& 31).toUInt32).toInt32) &&& (3 : Int32))), .val (.long ((q2 &&& (3 : Int64)) - (1 : Int64))), .second, .val (.long q2), .second, .val .null, .val (.ref b72), .val (.int (alN q0 q2)), .val (.long (9223372036854775807 : Int64)), .second, .unset] [(.long q0)])) _
          refine XS.lload X74.here hx rfl (hb hby at_117) rfl ?_
          show Steps p.tables e below (T74.setTop (mkF m 119 #[.val (.long q0), .second, .val (.long q1), .second, .val (.long q2), .second, .val (.int p3), .val (.int (1 : Int32)), .val (.int (((p3.toUInt32 >>> ((1 : Int32) &&& 31).toUInt32).toInt32) &&& (3 : Int32))), .val (.long ((q2 &&& (3 : Int64)) - (1 : Int64))), .second, .val (.long q2), .second, .val .null, .val (.ref b72), .val (.int (alN q0 q2)), .val (.long (9223372036854775807 : Int64)), .second, .unset] [(.long (9223372036854775807 : Int64)), (.long q0)])) _
          refine XS.lcmp X74.here hx rfl (hb hby at_119) rfl ?_
          exact k
        by_cases hc75 : (0 : Int32) < (lcmpW q0 (9223372036854775807 : Int64))
        · -- hc75: yes
          refine own_go (A' := (T74.setTop (mkF m 144 #[.val (.long q0), .second, .val (.long q1), .second, .val (.long q2), .second, .val (.int p3), .val (.int (1 : Int32)), .val (.int (((p3.toUInt32 >>> ((1 : Int32) &&& 31).toUInt32).toInt32) &&& (3 : Int32))), .val (.long ((q2 &&& (3 : Int64)) - (1 : Int64))), .second, .val (.long q2), .second, .val .null, .val (.ref b72), .val (.int (alN q0 q2)), .val (.long (9223372036854775807 : Int64)), .second, .unset] []))) (fun t k => XS.ifYes X74.here hx rfl (pc0 := 120) (pc' := 144) rfl (hb hby at_120) rfl ((if0 _ _).trans (tlt hc75).2.2.1) (by decide) (by decide) k) ?_
          refine own_go (A' := (T74.setTop (mkF m 151 #[.val (.long q0), .second, .val (.long q1), .second, .val (.long q2), .second, .val (.int p3), .val (.int (1 : Int32)), .val (.int (((p3.toUInt32 >>> ((1 : Int32) &&& 31).toUInt32).toInt32) &&& (3 : Int32))), .val (.long ((q2 &&& (3 : Int64)) - (1 : Int64))), .second, .val (.long q2), .second, .val .null, .val (.ref b72), .val (.int (alN q0 q2)), .val (.long (9223372036854775807 : Int64)), .second, .val (.int (0 : Int32))] [(.int (0 : Int32)), (.int (alN q0 q2))]))) (fun t k => ?_) ?_
          · show Steps p.tables e below (T74.setTop (mkF m 144 #[.val (.long q0), .second, .val (.long q1), .second, .val (.long q2), .second, .val (.int p3), .val (.int (1 : Int32)), .val (.int (((p3.toUInt32 >>> ((1 : Int32) &&& 31).toUInt32).toInt32) &&& (3 : Int32))), .val (.long ((q2 &&& (3 : Int64)) - (1 : Int64))), .second, .val (.long q2), .second, .val .null, .val (.ref b72), .val (.int (alN q0 q2)), .val (.long (9223372036854775807 : Int64)), .second, .unset] [])) _
            refine XS.iconst X74.here hx rfl (hb hby at_144) ?_
            show Steps p.tables e below (T74.setTop (mkF m 145 #[.val (.long q0), .second, .val (.long q1), .second, .val (.long q2), .second, .val (.int p3), .val (.int (1 : Int32)), .val (.int (((p3.toUInt32 >>> ((1 : Int32) &&& 31).toUInt32).toInt32) &&& (3 : Int32))), .val (.long ((q2 &&& (3 : Int64)) - (1 : Int64))), .second, .val (.long q2), .second, .val .null, .val (.ref b72), .val (.int (alN q0 q2)), .val (.long (9223372036854775807 : Int64)), .second, .unset] [(.int (0 : Int32))])) _
            refine XS.istore X74.here hx rfl (hb hby at_145) rfl (l' := #[.val (.long q0), .second, .val (.long q1), .second, .val (.long q2), .second, .val (.int p3), .val (.int (1 : Int32)), .val (.int (((p3.toUInt32 >>> ((1 : Int32) &&& 31).toUInt32).toInt32) &&& (3 : Int32))), .val (.long ((q2 &&& (3 : Int64)) - (1 : Int64))), .second, .val (.long q2), .second, .val .null, .val (.ref b72), .val (.int (alN q0 q2)), .val (.long (9223372036854775807 : Int64)), .second, .val (.int (0 : Int32))]) rfl ?_
            show Steps p.tables e below (T74.setTop (mkF m 147 #[.val (.long q0), .second, .val (.long q1), .second, .val (.long q2), .second, .val (.int p3), .val (.int (1 : Int32)), .val (.int (((p3.toUInt32 >>> ((1 : Int32) &&& 31).toUInt32).toInt32) &&& (3 : Int32))), .val (.long ((q2 &&& (3 : Int64)) - (1 : Int64))), .second, .val (.long q2), .second, .val .null, .val (.ref b72), .val (.int (alN q0 q2)), .val (.long (9223372036854775807 : Int64)), .second, .val (.int (0 : Int32))] [])) _
            refine XS.iload X74.here hx rfl (hb hby at_147) rfl ?_
            show Steps p.tables e below (T74.setTop (mkF m 149 #[.val (.long q0), .second, .val (.long q1), .second, .val (.long q2), .second, .val (.int p3), .val (.int (1 : Int32)), .val (.int (((p3.toUInt32 >>> ((1 : Int32) &&& 31).toUInt32).toInt32) &&& (3 : Int32))), .val (.long ((q2 &&& (3 : Int64)) - (1 : Int64))), .second, .val (.long q2), .second, .val .null, .val (.ref b72), .val (.int (alN q0 q2)), .val (.long (9223372036854775807 : Int64)), .second, .val (.int (0 : Int32))] [(.int (alN q0 q2))])) _
            refine XS.iload X74.here hx rfl (hb hby at_149) rfl ?_
            exact k
          refine own_go (A' := (T74.setTop (mkF m 154 #[.val (.long q0), .second, .val (.long q1), .second, .val (.long q2), .second, .val (.int p3), .val (.int (1 : Int32)), .val (.int (((p3.toUInt32 >>> ((1 : Int32) &&& 31).toUInt32).toInt32) &&& (3 : Int32))), .val (.long ((q2 &&& (3 : Int64)) - (1 : Int64))), .second, .val (.long q2), .second, .val .null, .val (.ref b72), .val (.int (alN q0 q2)), .val (.long (9223372036854775807 : Int64)), .second, .val (.int (0 : Int32))] []))) (fun t k => XS.icmpNo X74.here hx rfl (hb hby at_151) rfl (teq ((own_alN _ _).trans (own_A _ hc75))).2 k) ?_
          refine own_go (A' := (T74.setTop (mkF m 159 #[.val (.long q0), .second, .val (.long q1), .second, .val (.long q2), .second, .val (.int p3), .val (.int (1 : Int32)), .val (.int (((p3.toUInt32 >>> ((1 : Int32) &&& 31).toUInt32).toInt32) &&& (3 : Int32))), .val (.long ((q2 &&& (3 : Int64)) - (1 : Int64))), .second, .val (.long q2), .second, .val .null, .val (.ref b72), .val (.int (alN q0 q2)), .val (.long (9223372036854775807 : Int64)), .second, .val (.int (0 : Int32))] [(.int (1 : Int32))]))) (fun t k => ?_) ?_
          · show Steps p.tables e below (T74.setTop (mkF m 154 #[.val (.long q0), .second, .val (.long q1), .second, .val (.long q2), .second, .val (.int p3), .val (.int (1 : Int32)), .val (.int (((p3.toUInt32 >>> ((1 : Int32) &&& 31).toUInt32).toInt32) &&& (3 : Int32))), .val (.long ((q2 &&& (3 : Int64)) - (1 : Int64))), .second, .val (.long q2), .second, .val .null, .val (.ref b72), .val (.int (alN q0 q2)), .val (.long (9223372036854775807 : Int64)), .second, .val (.int (0 : Int32))] [])) _
            refine XS.iconst X74.here hx rfl (hb hby at_154) ?_
            show Steps p.tables e below (T74.setTop (mkF m 155 #[.val (.long q0), .second, .val (.long q1), .second, .val (.long q2), .second, .val (.int p3), .val (.int (1 : Int32)), .val (.int (((p3.toUInt32 >>> ((1 : Int32) &&& 31).toUInt32).toInt32) &&& (3 : Int32))), .val (.long ((q2 &&& (3 : Int64)) - (1 : Int64))), .second, .val (.long q2), .second, .val .null, .val (.ref b72), .val (.int (alN q0 q2)), .val (.long (9223372036854775807 : Int64)), .second, .val (.int (0 : Int32))] [(.int (1 : Int32))])) _
            refine XS.goto X74.here hx rfl (pc0 := 155) (pc' := 159) rfl (hb hby at_155) (by decide) (by decide) ?_
            exact k
          obtain ⟨fs, hr, hrun, hended, hW, hsame⟩ := X74.leave (v := some (.int (1 : Int32))) (fun h => by rw [Bd.returns] at h; cases h) hlk
          refine ⟨_, _, ?_, hrun, hended, _, _, rfl, ?_, ⟨_, rfl⟩, hW, hsame.mono (by decide) (by decide)⟩
          · show Steps p.tables e below (T74.setTop (mkF m 159 #[.val (.long q0), .second, .val (.long q1), .second, .val (.long q2), .second, .val (.int p3), .val (.int (1 : Int32)), .val (.int (((p3.toUInt32 >>> ((1 : Int32) &&& 31).toUInt32).toInt32) &&& (3 : Int32))), .val (.long ((q2 &&& (3 : Int64)) - (1 : Int64))), .second, .val (.long q2), .second, .val .null, .val (.ref b72), .val (.int (alN q0 q2)), .val (.long (9223372036854775807 : Int64)), .second, .val (.int (0 : Int32))] [(.int (1 : Int32))])) _
            exact retN X74 hx (t := .boolean) Bd.returns (by simp) (hb hby at_159) hr
          · show Q0 Z q0 q1 q2 p3 wC clC h0 n0 _ T74.heap _
            exact ⟨rfl, N74⟩
        · -- hc75: no
          refine own_go (A' := (T74.setTop (mkF m 123 #[.val (.long q0), .second, .val (.long q1), .second, .val (.long q2), .second, .val (.int p3), .val (.int (1 : Int32)), .val (.int (((p3.toUInt32 >>> ((1 : Int32) &&& 31).toUInt32).toInt32) &&& (3 : Int32))), .val (.long ((q2 &&& (3 : Int64)) - (1 : Int64))), .second, .val (.long q2), .second, .val .null, .val (.ref b72), .val (.int (alN q0 q2)), .val (.long (9223372036854775807 : Int64)), .second, .unset] []))) (fun t k => XS.ifNo X74.here hx rfl (hb hby at_120) rfl ((if0 _ _).trans (flt hc75).2.2.1) k) ?_
          obtain ⟨_, _, ⟨T76, L76, k76, n76⟩, -, X76, ⟨Lc76, hQ76, l76, y76, z76⟩, st76⟩ := Jvm.LawKit.callS X74 hx (y := (⟨"java/lang/Math", "max", "(JJ)J"⟩ : MethodName)) hown (mvT hZ (hw _ (List.mem_of_getElem? (i := 47) rfl))) (mvT hZ (hw _ (List.mem_of_getElem? (i := 48) rfl))) (mvT hZ (hw _ (List.mem_of_getElem? (i := 49) rfl))) (mvT hZ (hw _ (List.mem_of_getElem? (i := 50) rfl))) (by decide) (backOf (W := 0) (rm8 l Z a0 hw [] q2 q0  T73.heap n0 (Nat.le_trans Z0 K73.1) ) hZ (hw _ (List.mem_of_getElem? (i := 50) rfl)) (hw _ (List.mem_of_getElem? (i := 49) rfl)) (by decide) (by decide)) (g := (mkF m 126 #[.val (.long q0), .second, .val (.long q1), .second, .val (.long q2), .second, .val (.int p3), .val (.int (1 : Int32)), .val (.int (((p3.toUInt32 >>> ((1 : Int32) &&& 31).toUInt32).toInt32) &&& (3 : Int32))), .val (.long ((q2 &&& (3 : Int64)) - (1 : Int64))), .second, .val (.long q2), .second, .val .null, .val (.ref b72), .val (.int (alN q0 q2)), .val (.long (9223372036854775807 : Int64)), .second, .unset] [(.long q0), (.long q2)])) rfl (by rw [hml]; rfl) (argsL := [(.long q2), (.long q0)]) (rest := []) (lenOf pd_6 rfl) rfl (by show 2 * 0 + _ ≤ _; exact Nat.le_of_eq rfl) (hb hby at_126) (fun _ _ => ⟨rfl, e74, (by decide : 1 + 0 ≤ _), (by decide : 2 + 0 ≤ _)⟩)
          dsimp only [Pt.U, Pt.locs, Pt.cells, Pt.slots] at X76 l76 y76 z76 st76 hQ76
          subst l76 y76 z76
          obtain ⟨rfl, N76q, e76⟩ := hQ76
          have N76 := Fr.app N74 N76q
          obtain ⟨_, _, ⟨T77, L77, k77, n77⟩, -, X77, ⟨Lc77, hQ77, l77, y77, z77⟩, st77⟩ := Jvm.LawKit.callS X76 hx (y := (⟨"java/lang/Math", "min", "(JJ)J"⟩ : MethodName)) hown (mvT hZ (hw _ (List.mem_of_getElem? (i := 51) rfl))) (mvT hZ (hw _ (List.mem_of_getElem? (i := 52) rfl))) (mvT hZ (hw _ (List.mem_of_getElem? (i := 49) rfl))) (mvT hZ (hw _ (List.mem_of_getElem? (i := 53) rfl))) (by decide) (backOf (W := 0) (rm9 l Z a0 hw [] (mxL q2 q0) (9223372036854775807 : Int64)  T73.heap n0 (Nat.le_trans Z0 K73.1) ) hZ (hw _ (List.mem_of_getElem? (i := 53) rfl)) (hw _ (List.mem_of_getElem? (i := 49) rfl)) (by decide) (by decide)) (g := (mkF m 131 #[.val (.long q0), .second, .val (.long q1), .second, .val (.long q2), .second, .val (.int p3), .val (.int (1 : Int32)), .val (.int (((p3.toUInt32 >>> ((1 : Int32) &&& 31).toUInt32).toInt32) &&& (3 : Int32))), .val (.long ((q2 &&& (3 : Int64)) - (1 : Int64))), .second, .val (.long q2), .second, .val .null, .val (.ref b72), .val (.int (alN q0 q2)), .val (.long (9223372036854775807 : Int64)), .second, .unset] [(.long (9223372036854775807 : Int64)), (.long (mxL q2 q0))])) rfl (by rw [hml]; rfl) (argsL := [(.long (mxL q2 q0)), (.long (9223372036854775807 : Int64))]) (rest := []) (lenOf pd_6 rfl) rfl (by show 2 * 0 + _ ≤ _; exact Nat.le_of_eq rfl) (hb hby at_131) (fun _ _ => ⟨rfl, e76, (by decide : 1 + 0 ≤ _), (by decide : 2 + 0 ≤ _)⟩)
          dsimp only [Pt.U, Pt.locs, Pt.cells, Pt.slots] at X77 l77 y77 z77 st77 hQ77
          subst l77 y77 z77
          obtain ⟨rfl, N77q, e77⟩ := hQ77
          have N77 := Fr.app N76 N77q
          refine own_go (A' := (T77.setTop (mkF m 137 #[.val (.long q0), .second, .val (.long q1), .second, .val (.long q2), .second, .val (.int p3), .val (.int (1 : Int32)), .val (.int (((p3.toUInt32 >>> ((1 : Int32) &&& 31).toUInt32).toInt32) &&& (3 : Int32))), .val (.long ((q2 &&& (3 : Int64)) - (1 : Int64))), .second, .val (.long q2), .second, .val .null, .val (.ref b72), .val (.int (alN q0 q2)), .val (.long (9223372036854775807 : Int64)), .second, .unset] [(.int (lcmpW (mnL (mxL q2 q0) (9223372036854775807 : Int64)) q2))]))) (fun t k => ?_) ?_
          · show Steps p.tables e below (T74.setTop (mkF m 123 #[.val (.long q0), .second, .val (.long q1), .second, .val (.long q2), .second, .val (.int p3), .val (.int (1 : Int32)), .val (.int (((p3.toUInt32 >>> ((1 : Int32) &&& 31).toUInt32).toInt32) &&& (3 : Int32))), .val (.long ((q2 &&& (3 : Int64)) - (1 : Int64))), .second, .val (.long q2), .second, .val .null, .val (.ref b72), .val (.int (alN q0 q2)), .val (.long (9223372036854775807 : Int64)), .second, .unset] [])) _
            refine XS.lload X74.here hx rfl (hb hby at_123) rfl ?_
            show Steps p.tables e below (T74.setTop (mkF m 125 #[.val (.long q0), .second, .val (.long q1), .second, .val (.long q2), .second, .val (.int p3), .val (.int (1 : Int32)), .val (.int (((p3.toUInt32 >>> ((1 : Int32) &&& 31).toUInt32).toInt32) &&& (3 : Int32))), .val (.long ((q2 &&& (3 : Int64)) - (1 : Int64))), .second, .val (.long q2), .second, .val .null, .val (.ref b72), .val (.int (alN q0 q2)), .val (.long (9223372036854775807 : Int64)), .second, .unset] [(.long q2)])) _
            refine XS.lloadN X74.here hx rfl (hb hby at_125) rfl ?_
            show Steps p.tables e below (T74.setTop (mkF m 126 #[.val (.long q0), .second, .val (.long q1), .second, .val (.long q2), .second, .val (.int p3), .val (.int (1 : Int32)), .val (.int (((p3.toUInt32 >>> ((1 : Int32) &&& 31).toUInt32).toInt32) &&& (3 : Int32))), .val (.long ((q2 &&& (3 : Int64)) - (1 : Int64))), .second, .val (.long q2), .second, .val .null, .val (.ref b72), .val (.int (alN q0 q2)), .val (.long (9223372036854775807 : Int64)), .second, .unset] [(.long q0), (.long q2)])) _
            refine st76 _ ?_
            show Steps p.tables e below (T76.setTop (mkF m 129 #[.val (.long q0), .second, .val (.long q1), .second, .val (.long q2), .second, .val (.int p3), .val (.int (1 : Int32)), .val (.int (((p3.toUInt32 >>> ((1 : Int32) &&& 31).toUInt32).toInt32) &&& (3 : Int32))), .val (.long ((q2 &&& (3 : Int64)) - (1 : Int64))), .second, .val (.long q2), .second, .val .null, .val (.ref b72), .val (.int (alN q0 q2)), .val (.long (9223372036854775807 : Int64)), .second, .unset] [(.long (mxL q2 q0))])) _
            refine XS.lload X76.here hx rfl (hb hby at_129) rfl ?_
            show Steps p.tables e below (T76.setTop (mkF m 131 #[.val (.long q0), .second, .val (.long q1), .second, .val (.long q2), .second, .val (.int p3), .val (.int (1 : Int32)), .val (.int (((p3.toUInt32 >>> ((1 : Int32) &&& 31).toUInt32).toInt32) &&& (3 : Int32))), .val (.long ((q2 &&& (3 : Int64)) - (1 : Int64))), .second, .val (.long q2), .second, .val .null, .val (.ref b72), .val (.int (alN q0 q2)), .val (.long (9223372036854775807 : Int64)), .second, .unset] [(.long (9223372036854775807 : Int64)), (.long (mxL q2 q0))])) _
            refine st77 _ ?_
            show Steps p.tables e below (T77.setTop (mkF m 134 #[.val (.long q0), .second, .val (.long q1), .second, .val (.long q2), .second, .val (.int p3), .val (.int (1 : Int32)), .val (.int (((p3.toUInt32 >>> ((1 : Int32) &&& 31).toUInt32).toInt32) &&& (3 : Int32))), .val (.long ((q2 &&& (3 : Int64)) - (1 : Int64))), .second, .val (.long q2), .second, .val .null, .val (.ref b72), .val (.int (alN q0 q2)), .val (.long (9223372036854775807 : Int64)), .second, .unset] [(.long (mnL (mxL q2 q0) (9223372036854775807 : Int64)))])) _
            refine XS.lload X77.here hx rfl (hb hby at_134) rfl ?_
            show Steps p.tables e below (T77.setTop (mkF m 136 #[.val (.long q0), .second, .val (.long q1), .second, .val (.long q2), .second, .val (.int p3), .val (.int (1 : Int32)), .val (.int (((p3.toUInt32 >>> ((1 : Int32) &&& 31).toUInt32).toInt32) &&& (3 : Int32))), .val (.long ((q2 &&& (3 : Int64)) - (1 : Int64))), .second, .val (.long q2), .second, .val .null, .val (.ref b72), .val (.int (alN q0 q2)), .val (.long (9223372036854775807 : Int64)), .second, .unset] [(.long q2), (.long (mnL (mxL q2 q0) (9223372036854775807 : Int64)))])) _
            refine XS.lcmp X77.here hx rfl (hb hby at_136) rfl ?_
            exact k
          by_cases hc78 : (lcmpW (mnL (mxL q2 q0) (9223372036854775807 : Int64)) q2) = (0 : Int32)
          · -- hc78: yes
            refine own_go (A' := (T77.setTop (mkF m 140 #[.val (.long q0), .second, .val (.long q1), .second, .val (.long q2), .second, .val (.int p3), .val (.int (1 : Int32)), .val (.int (((p3.toUInt32 >>> ((1 : Int32) &&& 31).toUInt32).toInt32) &&& (3 : Int32))), .val (.long ((q2 &&& (3 : Int64)) - (1 : Int64))), .second, .val (.long q2), .second, .val .null, .val (.ref b72), .val (.int (alN q0 q2)), .val (.long (9223372036854775807 : Int64)), .second, .unset] []))) (fun t k => XS.ifNo X77.here hx rfl (hb hby at_137) rfl ((if0 _ _).trans (teq hc78).2) k) ?_
            refine own_go (A' := (T77.setTop (mkF m 151 #[.val (.long q0), .second, .val (.long q1), .second, .val (.long q2), .second, .val (.int p3), .val (.int (1 : Int32)), .val (.int (((p3.toUInt32 >>> ((1 : Int32) &&& 31).toUInt32).toInt32) &&& (3 : Int32))), .val (.long ((q2 &&& (3 : Int64)) - (1 : Int64))), .second, .val (.long q2), .second, .val .null, .val (.ref b72), .val (.int (alN q0 q2)), .val (.long (9223372036854775807 : Int64)), .second, .val (.int (1 : Int32))] [(.int (1 : Int32)), (.int (alN q0 q2))]))) (fun t k => ?_) ?_
            · show Steps p.tables e below (T77.setTop (mkF m 140 #[.val (.long q0), .second, .val (.long q1), .second, .val (.long q2), .second, .val (.int p3), .val (.int (1 : Int32)), .val (.int (((p3.toUInt32 >>> ((1 : Int32) &&& 31).toUInt32).toInt32) &&& (3 : Int32))), .val (.long ((q2 &&& (3 : Int64)) - (1 : Int64))), .second, .val (.long q2), .second, .val .null, .val (.ref b72), .val (.int (alN q0 q2)), .val (.long (9223372036854775807 : Int64)), .second, .unset] [])) _
              refine XS.iconst X77.here hx rfl (hb hby at_140) ?_
              show Steps p.tables e below (T77.setTop (mkF m 141 #[.val (.long q0), .second, .val (.long q1), .second, .val (.long q2), .second, .val (.int p3), .val (.int (1 : Int32)), .val (.int (((p3.toUInt32 >>> ((1 : Int32) &&& 31).toUInt32).toInt32) &&& (3 : Int32))), .val (.long ((q2 &&& (3 : Int64)) - (1 : Int64))), .second, .val (.long q2), .second, .val .null, .val (.ref b72), .val (.int (alN q0 q2)), .val (.long (9223372036854775807 : Int64)), .second, .unset] [(.int (1 : Int32))])) _
              refine XS.goto X77.here hx rfl (pc0 := 141) (pc' := 145) rfl (hb hby at_141) (by decide) (by decide) ?_
              show Steps p.tables e below (T77.setTop (mkF m 145 #[.val (.long q0), .second, .val (.long q1), .second, .val (.long q2), .second, .val (.int p3), .val (.int (1 : Int32)), .val (.int (((p3.toUInt32 >>> ((1 : Int32) &&& 31).toUInt32).toInt32) &&& (3 : Int32))), .val (.long ((q2 &&& (3 : Int64)) - (1 : Int64))), .second, .val (.long q2), .second, .val .null, .val (.ref b72), .val (.int (alN q0 q2)), .val (.long (9223372036854775807 : Int64)), .second, .unset] [(.int (1 : Int32))])) _
              refine XS.istore X77.here hx rfl (hb hby at_145) rfl (l' := #[.val (.long q0), .second, .val (.long q1), .second, .val (.long q2), .second, .val (.int p3), .val (.int (1 : Int32)), .val (.int (((p3.toUInt32 >>> ((1 : Int32) &&& 31).toUInt32).toInt32) &&& (3 : Int32))), .val (.long ((q2 &&& (3 : Int64)) - (1 : Int64))), .second, .val (.long q2), .second, .val .null, .val (.ref b72), .val (.int (alN q0 q2)), .val (.long (9223372036854775807 : Int64)), .second, .val (.int (1 : Int32))]) rfl ?_
              show Steps p.tables e below (T77.setTop (mkF m 147 #[.val (.long q0), .second, .val (.long q1), .second, .val (.long q2), .second, .val (.int p3), .val (.int (1 : Int32)), .val (.int (((p3.toUInt32 >>> ((1 : Int32) &&& 31).toUInt32).toInt32) &&& (3 : Int32))), .val (.long ((q2 &&& (3 : Int64)) - (1 : Int64))), .second, .val (.long q2), .second, .val .null, .val (.ref b72), .val (.int (alN q0 q2)), .val (.long (9223372036854775807 : Int64)), .second, .val (.int (1 : Int32))] [])) _
              refine XS.iload X77.here hx rfl (hb hby at_147) rfl ?_
              show Steps p.tables e below (T77.setTop (mkF m 149 #[.val (.long q0), .second, .val (.long q1), .second, .val (.long q2), .second, .val (.int p3), .val (.int (1 : Int32)), .val (.int (((p3.toUInt32 >>> ((1 : Int32) &&& 31).toUInt32).toInt32) &&& (3 : Int32))), .val (.long ((q2 &&& (3 : Int64)) - (1 : Int64))), .second, .val (.long q2), .second, .val .null, .val (.ref b72), .val (.int (alN q0 q2)), .val (.long (9223372036854775807 : Int64)), .second, .val (.int (1 : Int32))] [(.int (alN q0 q2))])) _
              refine XS.iload X77.here hx rfl (hb hby at_149) rfl ?_
              exact k
            refine own_go (A' := (T77.setTop (mkF m 154 #[.val (.long q0), .second, .val (.long q1), .second, .val (.long q2), .second, .val (.int p3), .val (.int (1 : Int32)), .val (.int (((p3.toUInt32 >>> ((1 : Int32) &&& 31).toUInt32).toInt32) &&& (3 : Int32))), .val (.long ((q2 &&& (3 : Int64)) - (1 : Int64))), .second, .val (.long q2), .second, .val .null, .val (.ref b72), .val (.int (alN q0 q2)), .val (.long (9223372036854775807 : Int64)), .second, .val (.int (1 : Int32))] []))) (fun t k => XS.icmpNo X77.here hx rfl (hb hby at_151) rfl (teq ((own_alN _ _).trans (own_B hc75 hc78))).2 k) ?_
            refine own_go (A' := (T77.setTop (mkF m 159 #[.val (.long q0), .second, .val (.long q1), .second, .val (.long q2), .second, .val (.int p3), .val (.int (1 : Int32)), .val (.int (((p3.toUInt32 >>> ((1 : Int32) &&& 31).toUInt32).toInt32) &&& (3 : Int32))), .val (.long ((q2 &&& (3 : Int64)) - (1 : Int64))), .second, .val (.long q2), .second, .val .null, .val (.ref b72), .val (.int (alN q0 q2)), .val (.long (9223372036854775807 : Int64)), .second, .val (.int (1 : Int32))] [(.int (1 : Int32))]))) (fun t k => ?_) ?_
            · show Steps p.tables e below (T77.setTop (mkF m 154 #[.val (.long q0), .second, .val (.long q1), .second, .val (.long q2), .second, .val (.int p3), .val (.int (1 : Int32)), .val (.int (((p3.toUInt32 >>> ((1 : Int32) &&& 31).toUInt32).toInt32) &&& (3 : Int32))), .val (.long ((q2 &&& (3 : Int64)) - (1 : Int64))), .second, .val (.long q2), .second, .val .null, .val (.ref b72), .val (.int (alN q0 q2)), .val (.long (9223372036854775807 : Int64)), .second, .val (.int (1 : Int32))] [])) _
              refine XS.iconst X77.here hx rfl (hb hby at_154) ?_
              show Steps p.tables e below (T77.setTop (mkF m 155 #[.val (.long q0), .second, .val (.long q1), .second, .val (.long q2), .second, .val (.int p3), .val (.int (1 : Int32)), .val (.int (((p3.toUInt32 >>> ((1 : Int32) &&& 31).toUInt32).toInt32) &&& (3 : Int32))), .val (.long ((q2 &&& (3 : Int64)) - (1 : Int64))), .second, .val (.long q2), .second, .val .null, .val (.ref b72), .val (.int (alN q0 q2)), .val (.long (9223372036854775807 : Int64)), .second, .val (.int (1 : Int32))] [(.int (1 : Int32))])) _
              refine XS.goto X77.here hx rfl (pc0 := 155) (pc' := 159) rfl (hb hby at_155) (by decide) (by decide) ?_
              exact k
            obtain ⟨fs, hr, hrun, hended, hW, hsame⟩ := X77.leave (v := some (.int (1 : Int32))) (fun h => by rw [Bd.returns] at h; cases h) hlk
            refine ⟨_, _, ?_, hrun, hended, _, _, rfl, ?_, ⟨_, rfl⟩, hW, hsame.mono (by decide) (by decide)⟩
            · show Steps p.tables e below (T77.setTop (mkF m 159 #[.val (.long q0), .second, .val (.long q1), .second, .val (.long q2), .second, .val (.int p3), .val (.int (1 : Int32)), .val (.int (((p3.toUInt32 >>> ((1 : Int32) &&& 31).toUInt32).toInt32) &&& (3 : Int32))), .val (.long ((q2 &&& (3 : Int64)) - (1 : Int64))), .second, .val (.long q2), .second, .val .null, .val (.ref b72), .val (.int (alN q0 q2)), .val (.long (9223372036854775807 : Int64)), .second, .val (.int (1 : Int32))] [(.int (1 : Int32))])) _
              exact retN X77 hx (t := .boolean) Bd.returns (by simp) (hb hby at_159) hr
            · show Q0 Z q0 q1 q2 p3 wC clC h0 n0 _ T77.heap _
              exact ⟨rfl, N77⟩
          · -- hc78: no
            refine own_go (A' := (T77.setTop (mkF m 144 #[.val (.long q0), .second, .val (.long q1), .second, .val (.long q2), .second, .val (.int p3), .val (.int (1 : Int32)), .val (.int (((p3.toUInt32 >>> ((1 : Int32) &&& 31).toUInt32).toInt32) &&& (3 : Int32))), .val (.long ((q2 &&& (3 : Int64)) - (1 : Int64))), .second, .val (.long q2), .second, .val .null, .val (.ref b72), .val (.int (alN q0 q2)), .val (.long (9223372036854775807 : Int64)), .second, .unset] []))) (fun t k => XS.ifYes X77.here hx rfl (pc0 := 137) (pc' := 144) rfl (hb hby at_137) rfl ((if0 _ _).trans (feq hc78).2) (by decide) (by decide) k) ?_
            refine own_go (A' := (T77.setTop (mkF m 151 #[.val (.long q0), .second, .val (.long q1), .second, .val (.long q2), .second, .val (.int p3), .val (.int (1 : Int32)), .val (.int (((p3.toUInt32 >>> ((1 : Int32) &&& 31).toUInt32).toInt32) &&& (3 : Int32))), .val (.long ((q2 &&& (3 : Int64)) - (1 : Int64))), .second, .val (.long q2), .second, .val .null, .val (.ref b72), .val (.int (alN q0 q2)), .val (.long (9223372036854775807 : Int64)), .second, .val (.int (0 : Int32))] [(.int (0 : Int32)), (.int (alN q0 q2))]))) (fun t k => ?_) ?_
            · show Steps p.tables e below (T77.setTop (mkF m 144 #[.val (.long q0), .second, .val (.long q1), .second, .val (.long q2), .second, .val (.int p3), .val (.int (1 : Int32)), .val (.int (((p3.toUInt32 >>> ((1 : Int32) &&& 31).toUInt32).toInt32) &&& (3 : Int32))), .val (.long ((q2 &&& (3 : Int64)) - (1 : Int64))), .second, .val (.long q2), .second, .val .null, .val (.ref b72), .val (.int (alN q0 q2)), .val (.long (9223372036854775807 : Int64)), .second, .unset] [])) _
              refine XS.iconst X77.here hx rfl (hb hby at_144) ?_
              show Steps p.tables e below (T77.setTop (mkF m 145 #[.val (.long q0), .second, .val (.long q1), .second, .val (.long q2), .second, .val (.int p3), .val (.int (1 : Int32)), .val (.int (((p3.toUInt32 >>> ((1 : Int32) &&& 31).toUInt32).toInt32) &&& (3 : Int32))), .val (.long ((q2 &&& (3 : Int64)) - (1 : Int64))), .second, .val (.long q2), .second, .val .null, .val (.ref b72), .val (.int (alN q0 q2)), .val (.long (9223372036854775807 : Int64)), .second, .unset] [(.int (0 : Int32))])) _
              refine XS.istore X77.here hx rfl (hb hby at_145) rfl (l' := #[.val (.long q0), .second, .val (.long q1), .second, .val (.long q2), .second, .val (.int p3), .val (.int (1 : Int32)), .val (.int (((p3.toUInt32 >>> ((1 : Int32) &&& 31).toUInt32).toInt32) &&& (3 : Int32))), .val (.long ((q2 &&& (3 : Int64)) - (1 : Int64))), .second, .val (.long q2), .second, .val .null, .val (.ref b72), .val (.int (alN q0 q2)), .val (.long (9223372036854775807 : Int64)), .second, .val (.int (0 : Int32))]) rfl ?_
              show Steps p.tables e below (T77.setTop (mkF m 147 #[.val (.long q0), .second, .val (.long q1), .second, .val (.long q2), .second, .val (.int p3), .val (.int (1 : Int32)), .val (.int (((p3.toUInt32 >>> ((1 : Int32) &&& 31).toUInt32).toInt32) &&& (3 : Int32))), .val (.long ((q2 &&& (3 : Int64)) - (1 : Int64))), .second, .val (.long q2), .second, .val .null, .val (.ref b72), .val (.int (alN q0 q2)), .val (.long (9223372036854775807 : Int64)), .second, .val (.int (0 : Int32))] [])) _
              refine XS.iload X77.here hx rfl (hb hby at_147) rfl ?_
              show Steps p.tables e below (T77.setTop (mkF m 149 #[.val (.long q0), .second, .val (.long q1), .second, .val (.long q2), .second, .val (.int p3), .val (.int (1 : Int32)), .val (.int (((p3.toUInt32 >>> ((1 : Int32) &&& 31).toUInt32).toInt32) &&& (3 : Int32))), .val (.long ((q2 &&& (3 : Int64)) - (1 : Int64))), .second, .val (.long q2), .second, .val .null, .val (.ref b72), .val (.int (alN q0 q2)), .val (.long (9223372036854775807 : Int64)), .second, .val (.int (0 : Int32))] [(.int (alN q0 q2))])) _
              refine XS.iload X77.here hx rfl (hb hby at_149) rfl ?_
              exact k
            refine own_go (A' := (T77.setTop (mkF m 154 #[.val (.long q0), .second, .val (.long q1), .second, .val (.long q2), .second, .val (.int p3), .val (.int (1 : Int32)), .val (.int (((p3.toUInt32 >>> ((1 : Int32) &&& 31).toUInt32).toInt32) &&& (3 : Int32))), .val (.long ((q2 &&& (3 : Int64)) - (1 : Int64))), .second, .val (.long q2), .second, .val .null, .val (.ref b72), .val (.int (alN q0 q2)), .val (.long (9223372036854775807 : Int64)), .second, .val (.int (0 : Int32))] []))) (fun t k => XS.icmpNo X77.here hx rfl (hb hby at_151) rfl (teq ((own_alN _ _).trans (own_C hc75 hc78))).2 k) ?_
            refine own_go (A' := (T77.setTop (mkF m 159 #[.val (.long q0), .second, .val (.long q1), .second, .val (.long q2), .second, .val (.int p3), .val (.int (1 : Int32)), .val (.int (((p3.toUInt32 >>> ((1 : Int32) &&& 31).toUInt32).toInt32) &&& (3 : Int32))), .val (.long ((q2 &&& (3 : Int64)) - (1 : Int64))), .second, .val (.long q2), .second, .val .null, .val (.ref b72), .val (.int (alN q0 q2)), .val (.long (9223372036854775807 : Int64)), .second, .val (.int (0 : Int32))] [(.int (1 : Int32))]))) (fun t k => ?_) ?_
            · show Steps p.tables e below (T77.setTop (mkF m 154 #[.val (.long q0), .second, .val (.long q1), .second, .val (.long q2), .second, .val (.int p3), .val (.int (1 : Int32)), .val (.int (((p3.toUInt32 >>> ((1 : Int32) &&& 31).toUInt32).toInt32) &&& (3 : Int32))), .val (.long ((q2 &&& (3 : Int64)) - (1 : Int64))), .second, .val (.long q2), .second, .val .null, .val (.ref b72), .val (.int (alN q0 q2)), .val (.long (9223372036854775807 : Int64)), .second, .val (.int (0 : Int32))] [])) _
              refine XS.iconst X77.here hx rfl (hb hby at_154) ?_
              show Steps p.tables e below (T77.setTop (mkF m 155 #[.val (.long q0), .second, .val (.long q1), .second, .val (.long q2), .second, .val (.int p3), .val (.int (1 : Int32)), .val (.int (((p3.toUInt32 >>> ((1 : Int32) &&& 31).toUInt32).toInt32) &&& (3 : Int32))), .val (.long ((q2 &&& (3 : Int64)) - (1 : Int64))), .second, .val (.long q2), .second, .val .null, .val (.ref b72), .val (.int (alN q0 q2)), .val (.long (9223372036854775807 : Int64)), .second, .val (.int (0 : Int32))] [(.int (1 : Int32))])) _
              refine XS.goto X77.here hx rfl (pc0 := 155) (pc' := 159) rfl (hb hby at_155) (by decide) (by decide) ?_
              exact k
            obtain ⟨fs, hr, hrun, hended, hW, hsame⟩ := X77.leave (v := some (.int (1 : Int32))) (fun h => by rw [Bd.returns] at h; cases h) hlk
            refine ⟨_, _, ?_, hrun, hended, _, _, rfl, ?_, ⟨_, rfl⟩, hW, hsame.mono (by decide) (by decide)⟩
            · show Steps p.tables e below (T77.setTop (mkF m 159 #[.val (.long q0), .second, .val (.long q1), .second, .val (.long q2), .second, .val (.int p3), .val (.int (1 : Int32)), .val (.int (((p3.toUInt32 >>> ((1 : Int32) &&& 31).toUInt32).toInt32) &&& (3 : Int32))), .val (.long ((q2 &&& (3 : Int64)) - (1 : Int64))), .second, .val (.long q2), .second, .val .null, .val (.ref b72), .val (.int (alN q0 q2)), .val (.long (9223372036854775807 : Int64)), .second, .val (.int (0 : Int32))] [(.int (1 : Int32))])) _
              exact retN X77 hx (t := .boolean) Bd.returns (by simp) (hb hby at_159) hr
            · show Q0 Z q0 q1 q2 p3 wC clC h0 n0 _ T77.heap _
              exact ⟨rfl, N77⟩
theorem own_eqint {t : Term} {k : Int32} {args : Array Value} {first s : State} {o : Option Outcome} {idx : List Nat} (h : (Jvm.Cond.eq t (.int k)).value args first o s idx = some true) : t.eval args first o idx s = some (.int k) := by
  cases ht : t.eval args first o idx s with
  | none => simp [Cond.value, Term.eval, ht] at h
  | some x => cases x <;> simp [Cond.value, Term.eval, ht] at h; subst h; rfl
theorem own_neint {t : Term} {k z : Int32} {args : Array Value} {first s : State} {o : Option Outcome} {idx : List Nat} (h : (Jvm.Cond.not (.eq t (.int k))).value args first o s idx = some true) (ev : t.eval args first o idx s = some (.int z)) : ¬ z = k := fun q => by
  subst q
  have h' := not_v h
  simp [Cond.value, Term.eval, ev] at h'
set_option maxRecDepth 65536 in
set_option maxHeartbeats 40000000 in
theorem comes_1 {Post : Tables → Env → Array Value → State → Outcome → State → Prop} (hpost : ∀ tb e args s v u, (limb_1_1.after args s (.returned v) u = true ∧ limb_1_2.after args s (.returned v) u = true ∧ True) → FrameEnd s (.returned v) u (Jvm.fieldLocs frame_1_writes args s ++ Jvm.arrayLocs frame_1_arrays args s ++ Jvm.staticLocs frame_1_statics s) 16 128 → Post tb e args s (.returned v) u) :
    ArmFor flags0 classFile x code maxLocals ret World_1 tables_1 room_1 Calls_1 rest_1 Pre_1 Post := by
  intro l hfl _ _ p e ha hc hk s m args below hf hA hF happ hP
  obtain ⟨hcalls, hrest, hpre⟩ := hP
  obtain ⟨-, -, -, hnamed, -, -, -, hat⟩ := (Spec.applies_iff hf).mp happ
  obtain ⟨hg, hn⟩ := and_e (Cond.before_iff.mp (show (Jvm.Cond.and given_1 narrow_1).before args s = true from hpre))
  have hv0 := (and_e (and_e hg).2).1
  have hv1 := (and_e (and_e (and_e hg).2).2).1
  have hv2 := (and_e (and_e (and_e (and_e hg).2).2).2).1
  have hv3 := (and_e (and_e (and_e (and_e hg).2).2).2).2
  obtain ⟨w0, w1, w2, w3, rfl⟩ : ∃ w0 w1 w2 w3 : Value, args = #[w0, w1, w2, w3] := by
    have hs : args.size = 4 := by simpa [Cond.value, given_1] using (and_e hg).1
    obtain ⟨L⟩ := args
    match L, hs with
    | [w0, w1, w2, w3], _ => exact ⟨w0, w1, w2, w3, rfl⟩
  have hw := fun d (hd : d ∈ tables_1) => atoms_spec (ws := Jvm.Cond.code x code maxLocals ret :: tables_1) hat d (List.mem_cons_of_mem _ hd)
  have hfit : Fit s := fun {y c} hc i hi => by
    obtain ⟨ha, rfl⟩ := Array.getElem?_eq_some_iff.mp hc
    have q := List.all_eq_true.mp ((Array.all_eq_true_iff_forall_mem.mp hF) _ (Array.getElem_mem ha)) i (List.mem_range.mpr hi)
    simpa [Array.getElem?_eq_getElem hi] using q
  obtain ⟨hsets, hown0⟩ := atoms_of _ (rest_1_c_eq ▸ (show rest_1_c.before _ s = true from hrest))
  have hr0 := Cond.before_iff.mp hown0
  obtain ⟨i0, ei0⟩ := isL_v hv0
  obtain rfl : w0 = (.long i0) := Option.some.inj ei0
  obtain ⟨i1, ei1⟩ := isL_v hv1
  obtain rfl : w1 = (.long i1) := Option.some.inj ei1
  obtain ⟨i2, ei2⟩ := isL_v hv2
  obtain rfl : w2 = (.long i2) := Option.some.inj ei2
  obtain ⟨i3, ei3⟩ := is_v hv3
  obtain rfl : w3 = (.int i3) := Option.some.inj ei3
  have hx_C := Cond.before_iff.mp (hsets _ (List.mem_of_getElem? (i := 3) rfl))
  obtain ⟨wC, ev_C⟩ := exa_v hx_C
  have S_cache : Sta s s.heap "java/lang/Long$LongCache" "cache" "[Ljava/lang/Long;" (.ref wC) := Sta.start ev_C (Or.inl (hsets _ (List.mem_of_getElem? (i := 1) rfl)))
  obtain ⟨clC, Ar_C⟩ := Arr.start ev_C (Cond.before_iff.mp (hsets _ (List.mem_of_getElem? (i := 2) rfl)))
  obtain ⟨L_C, P_C⟩ := own_cache ev_C Ar_C (Cond.before_iff.mp (hsets _ (List.mem_of_getElem? (i := 4) rfl))) (Cond.before_iff.mp (hsets _ (List.mem_of_getElem? (i := 5) rfl)))
  obtain ⟨n, o, h1, h2, h3, _, L, rfl, ⟨rfl, N⟩, hq⟩ := rm0 l s _ hw tables_1 i0 i1 i2 i3 wC clC s.heap s.heap.size (Nat.le_refl _) S_cache Ar_C L_C P_C p e ha hc hk s m _ below hf ((Spec.applies_iff_loose hf).mp happ).1 ⟨rfl, State.Warmed39.refl s, rfl⟩ trivial
  refine ⟨n, _, h1, h2, h3, hpost _ _ _ _ _ _ ⟨Cond.after_iff.mpr rfl, Cond.after_iff.mpr (eq_i res_at (Term.int_eval (1)) rfl), trivial⟩ ⟨hq.1, hq.2.1, (hq.2.2.sift fun y hy => Or.inr (N y hy)).mono (by decide) (by decide)⟩⟩
theorem main_1_1 : Claimed_1_1 := comes_1 fun _ _ _ _ _ _ h hF => ⟨h.1, hF⟩
theorem main_1_2 : Claimed_1_2 := comes_1 fun _ _ _ _ _ _ h hF => ⟨h.2.1, hF⟩
end Jvm.Pilot.@@N@@
namespace Jvm.Pilot.@@N@@
open Jvm Jvm.ClassFile Sem Op Lib Jvm.Free Jvm.Stand Jvm.Pilot.@@N@@.Jvm.D
/-! MADE BY PROGRAM (witnessworld.py) out of the Statement's table words and the real class files: 17 classes; the members and pool entries that the words name. The judged class is class 1, her method 1. -/
namespace start1
open Jvm.ClassFile
def u (s : String) : CpInfo := .utf8 (stringToUtf16 s)
/-- a pool by its gaps: so many unusable entries, then the entry; so many at the end -/
def gap : Nat → List CpInfo → List CpInfo
  | 0, r => r
  | n + 1, r => .unusable :: gap n r
def poolList (es : List (Nat × CpInfo)) (last : Nat) : List CpInfo := es.foldr (fun e r => gap e.1 (e.2 :: r)) (gap last [])
def pool (es : List (Nat × CpInfo)) (last : Nat) : Array CpInfo := ⟨poolList es last⟩
def fileOf (pool : Array CpInfo) (this : Nat) (attrs : Array Attribute := #[]) (ms : Array MethodInfo := #[]) (fl : Nat := 33) (sup : Nat := 0) (ifs : Array Nat := #[]) (fds : Array FieldInfo := #[]) : ClassFile where
  minorVersion := 0
  majorVersion := 65
  constantPool := pool
  accessFlags := fl
  thisClass := this
  superClass := sup
  interfaces := ifs
  fields := fds
  methods := ms
  attributes := attrs
def plain (name : String) (sup : Option ClassId) : Class where
  name := name
  kind := .ordinary
  loader := none
  accessFlags := 33
  super := sup
  interfaces := #[]
  cf := none
  fields := #[]
  methods := #[]
  instanceTypes := #[]
  staticTypes := #[]
  resolved := #[]
  callSites := []
  init := .initialized
  statics := none
  mirror := none

def pool0 : Array CpInfo := pool [(5, u "<init>"), (0, u "()V"), (1, .class_ 10), (1, u "java/lang/Object")] 113

def k0c0 : Code := { maxStack := 0, maxLocals := 1, code := object_method_1_code, exceptionTable := #[], attributes := #[] }
def k0m0 : Method := { name := "<init>", desc := "()V", sig := { parameters := [], returnType := none }, accessFlags := 1, code := some k0c0 }
/-- java/lang/Object -/
def k0 : Class := { plain "java/lang/Object" none with
  accessFlags := 33
  interfaces := #[]
  cf := some (fileOf pool0 8 #[] #[{ accessFlags := 1, nameIndex := 5, descriptorIndex := 6, attributes := #[] }] 33 0 #[] #[])
  fields := #[]
  methods := #[k0m0]
  instanceTypes := #[]
  staticTypes := #[]
  resolved := Array.replicate 124 none
  statics := none }

def pool1 : Array CpInfo := pool [(2, .class_ 4), (1, u "java/lang/Object"), (0, u "<init>"), (0, u "()V"), (0, .long 3), (1, .methodref 10 11), (0, .class_ 12), (0, .nameAndType 13 14), (0, u "java/lang/Long"), (0, u "valueOf"), (0, u "(J)Ljava/lang/Long;"), (0, .class_ 16), (0, u "com/example/lading/lading/core/Occurrence"), (0, .methodref 15 18), (0, .nameAndType 5 19), (0, u "(JLjava/lang/Long;)V"), (0, .methodref 15 21), (0, .nameAndType 22 23), (0, u "allows"), (0, u "(J)Z"), (0, .long 9223372036854775807), (1, .methodref 27 28), (0, .class_ 29), (0, .nameAndType 30 31), (0, u "java/lang/Math"), (0, u "max"), (0, u "(JJ)J"), (0, .methodref 27 33), (0, .nameAndType 34 31), (0, u "min"), (0, .class_ 36), (0, u "com/example/lading/lading/core/OccurrenceAllowsPinLaw"), (2, u "law"), (0, u "(JJJI)Z")] 3

def k1m0 : Method := { name := "<init>", desc := "()V", sig := { parameters := [], returnType := none }, accessFlags := 1, code := none }
def k1c1 : Code := { maxStack := 5, maxLocals := 19, code := code, exceptionTable := #[], attributes := #[] }
def k1m1 : Method := { name := "law", desc := "(JJJI)Z", sig := { parameters := [.long, .long, .long, .int], returnType := some .boolean }, accessFlags := 9, code := some k1c1 }
/-- com/example/lading/lading/core/OccurrenceAllowsPinLaw -/
def k1 : Class := { plain "com/example/lading/lading/core/OccurrenceAllowsPinLaw" (some 0) with
  accessFlags := 49
  interfaces := #[]
  cf := some (fileOf pool1 35 #[] #[{ accessFlags := 1, nameIndex := 5, descriptorIndex := 6, attributes := #[] }, { accessFlags := 9, nameIndex := 39, descriptorIndex := 40, attributes := #[] }] 49 2 #[] #[])
  fields := #[]
  methods := #[k1m0, k1m1]
  instanceTypes := #[]
  staticTypes := #[]
  resolved := Array.replicate 44 none
  statics := none }

def pool2 : Array CpInfo := pool [(1, .class_ 2), (0, u "java/io/Serializable"), (0, .class_ 4), (0, u "java/lang/Object")] 2

/-- java/io/Serializable -/
def k2 : Class := { plain "java/io/Serializable" (some 0) with
  accessFlags := 1537
  interfaces := #[]
  cf := some (fileOf pool2 1 #[] #[] 1537 3 #[] #[])
  fields := #[]
  methods := #[]
  instanceTypes := #[]
  staticTypes := #[]
  resolved := Array.replicate 7 none
  statics := none }

def pool3 : Array CpInfo := pool [(1, .methodref 2 3), (0, .class_ 4), (0, .nameAndType 5 6), (0, u "java/lang/Object"), (0, u "<init>"), (0, u "()V"), (1, .class_ 10), (1, u "java/lang/Number"), (2, .class_ 14), (0, u "java/io/Serializable"), (0, u "serialVersionUID"), (0, u "J")] 20

def k3c0 : Code := { maxStack := 1, maxLocals := 1, code := jdk_18_method_1_code, exceptionTable := #[], attributes := #[] }
def k3m0 : Method := { name := "<init>", desc := "()V", sig := { parameters := [], returnType := none }, accessFlags := 1, code := some k3c0 }
/-- java/lang/Number -/
def k3 : Class := { plain "java/lang/Number" (some 0) with
  accessFlags := 1057
  interfaces := #[2]
  cf := some (fileOf pool3 8 #[] #[{ accessFlags := 1, nameIndex := 5, descriptorIndex := 6, attributes := #[] }] 1057 2 #[13] #[{ accessFlags := 26, nameIndex := 15, descriptorIndex := 16, attributes := #[] }])
  fields := #[{ name := "serialVersionUID", type := .long, accessFlags := 26, slot := 0, constantValue := 0 }]
  methods := #[k3m0]
  instanceTypes := #[]
  staticTypes := #[.long]
  resolved := Array.replicate 37 none
  statics := none }

def pool4 : Array CpInfo := pool [(1, .class_ 2), (0, u "java/lang/Comparable"), (0, .class_ 4), (0, u "java/lang/Object")] 7

/-- java/lang/Comparable -/
def k4 : Class := { plain "java/lang/Comparable" (some 0) with
  accessFlags := 1537
  interfaces := #[]
  cf := some (fileOf pool4 1 #[] #[] 1537 3 #[] #[])
  fields := #[]
  methods := #[]
  instanceTypes := #[]
  staticTypes := #[]
  resolved := Array.replicate 12 none
  statics := none }

def pool5 : Array CpInfo := pool [(1, .class_ 2), (0, u "java/lang/constant/Constable"), (0, .class_ 4), (0, u "java/lang/Object")] 6

/-- java/lang/constant/Constable -/
def k5 : Class := { plain "java/lang/constant/Constable" (some 0) with
  accessFlags := 1537
  interfaces := #[]
  cf := some (fileOf pool5 1 #[] #[] 1537 3 #[] #[])
  fields := #[]
  methods := #[]
  instanceTypes := #[]
  staticTypes := #[]
  resolved := Array.replicate 11 none
  statics := none }

def pool6 : Array CpInfo := pool [(1, .class_ 2), (0, u "java/lang/constant/ConstantDesc"), (0, .class_ 4), (0, u "java/lang/Object")] 32

/-- java/lang/constant/ConstantDesc -/
def k6 : Class := { plain "java/lang/constant/ConstantDesc" (some 0) with
  accessFlags := 1537
  interfaces := #[]
  cf := some (fileOf pool6 1 #[] #[] 1537 3 #[] #[])
  fields := #[]
  methods := #[]
  instanceTypes := #[]
  staticTypes := #[]
  resolved := Array.replicate 37 none
  statics := none }

def pool7 : Array CpInfo := pool [(1, .class_ 2), (0, u "java/lang/Long"), (55, .nameAndType 59 60), (0, u "<init>"), (0, u "()V"), (24, u "valueOf"), (143, u "(J)Ljava/lang/Long;"), (0, .long 18446744073709551488), (1, .long 127), (1, .fieldref 235 236), (0, .class_ 237), (0, .nameAndType 238 239), (0, u "java/lang/Long$LongCache"), (0, u "cache"), (0, u "[Ljava/lang/Long;"), (0, .methodref 1 241), (0, .nameAndType 59 242), (0, u "(J)V"), (27, .methodref 271 58), (0, .class_ 272), (0, u "java/lang/Number"), (0, .fieldref 1 274), (0, .nameAndType 275 276), (0, u "value"), (0, u "J"), (5, u "longValue"), (0, u "()J"), (77, u "TYPE"), (0, u "Ljava/lang/Class;"), (0, .class_ 364), (0, u "java/lang/Comparable"), (0, .class_ 366), (0, u "java/lang/constant/Constable"), (0, .class_ 368), (0, u "java/lang/constant/ConstantDesc"), (0, u "MIN_VALUE"), (1, u "MAX_VALUE"), (4, u "SIZE"), (0, u "I"), (1, u "BYTES"), (1, u "serialVersionUID")] 142

def k7c0 : Code := { maxStack := 4, maxLocals := 3, code := jdk_35_method_24_code, exceptionTable := #[], attributes := #[] }
def k7m0 : Method := { name := "valueOf", desc := "(J)Ljava/lang/Long;", sig := { parameters := [.long], returnType := some (.object "java/lang/Long") }, accessFlags := 9, code := some k7c0 }
def k7c1 : Code := { maxStack := 3, maxLocals := 3, code := jdk_35_method_26_code, exceptionTable := #[], attributes := #[] }
def k7m1 : Method := { name := "<init>", desc := "(J)V", sig := { parameters := [.long], returnType := none }, accessFlags := 1, code := some k7c1 }
def k7c2 : Code := { maxStack := 2, maxLocals := 1, code := jdk_35_method_31_code, exceptionTable := #[], attributes := #[] }
def k7m2 : Method := { name := "longValue", desc := "()J", sig := { parameters := [], returnType := some .long }, accessFlags := 1, code := some k7c2 }
/-- java/lang/Long -/
def k7 : Class := { plain "java/lang/Long" (some 3) with
  accessFlags := 49
  interfaces := #[4, 5, 6]
  cf := some (fileOf pool7 1 #[.nestMembers #[235]] #[{ accessFlags := 9, nameIndex := 85, descriptorIndex := 229, attributes := #[] }, { accessFlags := 1, nameIndex := 59, descriptorIndex := 242, attributes := #[] }, { accessFlags := 1, nameIndex := 282, descriptorIndex := 283, attributes := #[] }] 49 271 #[363, 365, 367] #[{ accessFlags := 25, nameIndex := 369, descriptorIndex := 276, attributes := #[] }, { accessFlags := 25, nameIndex := 371, descriptorIndex := 276, attributes := #[] }, { accessFlags := 25, nameIndex := 361, descriptorIndex := 362, attributes := #[] }, { accessFlags := 18, nameIndex := 275, descriptorIndex := 276, attributes := #[] }, { accessFlags := 25, nameIndex := 376, descriptorIndex := 377, attributes := #[] }, { accessFlags := 25, nameIndex := 379, descriptorIndex := 377, attributes := #[] }, { accessFlags := 26, nameIndex := 381, descriptorIndex := 276, attributes := #[] }])
  fields := #[{ name := "MIN_VALUE", type := .long, accessFlags := 25, slot := 0, constantValue := 0 }, { name := "MAX_VALUE", type := .long, accessFlags := 25, slot := 1, constantValue := 0 }, { name := "TYPE", type := (.object "java/lang/Class"), accessFlags := 25, slot := 2, constantValue := 0 }, { name := "value", type := .long, accessFlags := 18, slot := 0, constantValue := 0 }, { name := "SIZE", type := .int, accessFlags := 25, slot := 3, constantValue := 0 }, { name := "BYTES", type := .int, accessFlags := 25, slot := 4, constantValue := 0 }, { name := "serialVersionUID", type := .long, accessFlags := 26, slot := 5, constantValue := 0 }]
  methods := #[k7m0, k7m1, k7m2]
  instanceTypes := #[.long]
  staticTypes := #[.long, .long, (.object "java/lang/Class"), .int, .int, .long]
  resolved := Array.replicate 524 none
  statics := none }

def pool8 : Array CpInfo := pool [(2, .class_ 4), (1, u "java/lang/Object"), (0, u "<init>"), (0, u "()V"), (0, .class_ 8), (0, u "java/lang/Long"), (7, .class_ 18), (1, u "java/lang/Long$LongCache"), (0, u "$assertionsDisabled"), (0, u "Z"), (8, u "archivedCache"), (0, u "[Ljava/lang/Long;"), (7, u "cache")] 24

def k8m0 : Method := { name := "<init>", desc := "()V", sig := { parameters := [], returnType := none }, accessFlags := 2, code := none }
/-- java/lang/Long$LongCache -/
def k8 : Class := { plain "java/lang/Long$LongCache" (some 0) with
  accessFlags := 48
  interfaces := #[]
  cf := some (fileOf pool8 16 #[.nestHost 7] #[{ accessFlags := 2, nameIndex := 5, descriptorIndex := 6, attributes := #[] }] 48 2 #[] #[{ accessFlags := 24, nameIndex := 38, descriptorIndex := 30, attributes := #[] }, { accessFlags := 8, nameIndex := 29, descriptorIndex := 30, attributes := #[] }, { accessFlags := 4120, nameIndex := 19, descriptorIndex := 20, attributes := #[] }])
  fields := #[{ name := "cache", type := (.array (.object "java/lang/Long")), accessFlags := 24, slot := 0, constantValue := 0 }, { name := "archivedCache", type := (.array (.object "java/lang/Long")), accessFlags := 8, slot := 1, constantValue := 0 }, { name := "$assertionsDisabled", type := .boolean, accessFlags := 4120, slot := 2, constantValue := 0 }]
  methods := #[k8m0]
  instanceTypes := #[]
  staticTypes := #[(.array (.object "java/lang/Long")), (.array (.object "java/lang/Long")), .boolean]
  resolved := Array.replicate 63 none
  statics := some 0 }

def pool9 : Array CpInfo := pool [(1, .methodref 2 3), (0, .class_ 4), (0, .nameAndType 5 6), (0, u "java/lang/Object"), (0, u "<init>"), (0, u "()V"), (0, .fieldref 8 9), (0, .class_ 10), (0, .nameAndType 11 12), (0, u "com/example/lading/lading/core/Occurrence"), (0, u "min"), (0, u "J"), (0, .fieldref 8 14), (0, .nameAndType 15 16), (0, u "max"), (0, u "Ljava/lang/Long;"), (0, .methodref 18 19), (0, .class_ 20), (0, .nameAndType 21 22), (0, u "java/lang/Long"), (0, u "longValue"), (0, u "()J"), (26, u "(JLjava/lang/Long;)V"), (2, u "ONE"), (0, u "Lcom/example/lading/lading/core/Occurrence;"), (6, u "allows"), (0, u "(J)Z")] 29

def k9c0 : Code := { maxStack := 3, maxLocals := 4, code := prog_25_method_1_code, exceptionTable := #[], attributes := #[] }
def k9m0 : Method := { name := "<init>", desc := "(JLjava/lang/Long;)V", sig := { parameters := [.long, (.object "java/lang/Long")], returnType := none }, accessFlags := 1, code := some k9c0 }
def k9c1 : Code := { maxStack := 4, maxLocals := 3, code := prog_25_method_5_code, exceptionTable := #[], attributes := #[] }
def k9m1 : Method := { name := "allows", desc := "(J)Z", sig := { parameters := [.long], returnType := some .boolean }, accessFlags := 1, code := some k9c1 }
/-- com/example/lading/lading/core/Occurrence -/
def k9 : Class := { plain "com/example/lading/lading/core/Occurrence" (some 0) with
  accessFlags := 49
  interfaces := #[]
  cf := some (fileOf pool9 8 #[] #[{ accessFlags := 1, nameIndex := 5, descriptorIndex := 49, attributes := #[] }, { accessFlags := 1, nameIndex := 60, descriptorIndex := 61, attributes := #[] }] 49 2 #[] #[{ accessFlags := 25, nameIndex := 52, descriptorIndex := 53, attributes := #[] }, { accessFlags := 18, nameIndex := 11, descriptorIndex := 12, attributes := #[] }, { accessFlags := 18, nameIndex := 15, descriptorIndex := 16, attributes := #[] }])
  fields := #[{ name := "ONE", type := (.object "com/example/lading/lading/core/Occurrence"), accessFlags := 25, slot := 0, constantValue := 0 }, { name := "min", type := .long, accessFlags := 18, slot := 0, constantValue := 0 }, { name := "max", type := (.object "java/lang/Long"), accessFlags := 18, slot := 1, constantValue := 0 }]
  methods := #[k9m0, k9m1]
  instanceTypes := #[.long, (.object "java/lang/Long")]
  staticTypes := #[(.object "com/example/lading/lading/core/Occurrence")]
  resolved := Array.replicate 91 none
  statics := none }

def pool10 : Array CpInfo := pool [(1, .class_ 2), (0, u "java/lang/Math"), (1, .class_ 6), (1, u "java/lang/Object"), (0, u "<init>"), (0, u "()V"), (89, .class_ 100), (1, u "java/lang/Math$RandomNumberGeneratorHolder"), (20, u "(JJ)J"), (50, u "negativeZeroFloatBits"), (0, u "J"), (2, u "negativeZeroDoubleBits"), (21, u "max"), (2, u "min"), (43, u "$assertionsDisabled"), (0, u "Z"), (91, u "twoToTheDoubleScaleDown"), (0, u "D"), (4, u "twoToTheDoubleScaleUp"), (9, u "E"), (3, u "PI"), (2, u "TAU"), (2, u "DEGREES_TO_RADIANS"), (0, u "RADIANS_TO_DEGREES")] 94

def k10m0 : Method := { name := "<init>", desc := "()V", sig := { parameters := [], returnType := none }, accessFlags := 2, code := none }
def k10c1 : Code := { maxStack := 4, maxLocals := 4, code := jdk_29_method_66_code, exceptionTable := #[], attributes := #[] }
def k10m1 : Method := { name := "max", desc := "(JJ)J", sig := { parameters := [.long, .long], returnType := some .long }, accessFlags := 9, code := some k10c1 }
def k10c2 : Code := { maxStack := 4, maxLocals := 4, code := jdk_29_method_70_code, exceptionTable := #[], attributes := #[] }
def k10m2 : Method := { name := "min", desc := "(JJ)J", sig := { parameters := [.long, .long], returnType := some .long }, accessFlags := 9, code := some k10c2 }
/-- java/lang/Math -/
def k10 : Class := { plain "java/lang/Math" (some 0) with
  accessFlags := 49
  interfaces := #[]
  cf := some (fileOf pool10 1 #[.nestMembers #[98]] #[{ accessFlags := 2, nameIndex := 7, descriptorIndex := 8, attributes := #[] }, { accessFlags := 9, nameIndex := 198, descriptorIndex := 121, attributes := #[] }, { accessFlags := 9, nameIndex := 201, descriptorIndex := 121, attributes := #[] }] 49 4 #[] #[{ accessFlags := 25, nameIndex := 354, descriptorIndex := 339, attributes := #[] }, { accessFlags := 25, nameIndex := 358, descriptorIndex := 339, attributes := #[] }, { accessFlags := 25, nameIndex := 361, descriptorIndex := 339, attributes := #[] }, { accessFlags := 26, nameIndex := 364, descriptorIndex := 339, attributes := #[] }, { accessFlags := 26, nameIndex := 365, descriptorIndex := 339, attributes := #[] }, { accessFlags := 26, nameIndex := 172, descriptorIndex := 173, attributes := #[] }, { accessFlags := 26, nameIndex := 176, descriptorIndex := 173, attributes := #[] }, { accessFlags := 8, nameIndex := 344, descriptorIndex := 339, attributes := #[] }, { accessFlags := 8, nameIndex := 338, descriptorIndex := 339, attributes := #[] }, { accessFlags := 4120, nameIndex := 245, descriptorIndex := 246, attributes := #[] }])
  fields := #[{ name := "E", type := .double, accessFlags := 25, slot := 0, constantValue := 0 }, { name := "PI", type := .double, accessFlags := 25, slot := 1, constantValue := 0 }, { name := "TAU", type := .double, accessFlags := 25, slot := 2, constantValue := 0 }, { name := "DEGREES_TO_RADIANS", type := .double, accessFlags := 26, slot := 3, constantValue := 0 }, { name := "RADIANS_TO_DEGREES", type := .double, accessFlags := 26, slot := 4, constantValue := 0 }, { name := "negativeZeroFloatBits", type := .long, accessFlags := 26, slot := 5, constantValue := 0 }, { name := "negativeZeroDoubleBits", type := .long, accessFlags := 26, slot := 6, constantValue := 0 }, { name := "twoToTheDoubleScaleUp", type := .double, accessFlags := 8, slot := 7, constantValue := 0 }, { name := "twoToTheDoubleScaleDown", type := .double, accessFlags := 8, slot := 8, constantValue := 0 }, { name := "$assertionsDisabled", type := .boolean, accessFlags := 4120, slot := 9, constantValue := 0 }]
  methods := #[k10m0, k10m1, k10m2]
  instanceTypes := #[]
  staticTypes := #[.double, .double, .double, .double, .double, .long, .long, .double, .double, .boolean]
  resolved := Array.replicate 460 none
  statics := none }

def pool11 : Array CpInfo := pool [(1, u "java/lang/Cloneable"), (0, .class_ 1), (0, u "java/lang/Object"), (0, .class_ 3)] 3

/-- java/lang/Cloneable -/
def k11 : Class := { plain "java/lang/Cloneable" (some 0) with
  accessFlags := 1537
  interfaces := #[]
  cf := some (fileOf pool11 2 #[] #[] 1537 4 #[] #[])
  fields := #[]
  methods := #[]
  instanceTypes := #[]
  staticTypes := #[]
  resolved := Array.replicate 8 none
  statics := none }

/-- the primitive byte -/
def k12 : Class := { plain "byte" none with kind := .primitive 'B', accessFlags := 0x411 }
/-- [B -/
def k13 : Class := { plain "[B" (some 0) with kind := .array 12 .byte, interfaces := #[11, 2], accessFlags := 1041 }

/-- the primitive int -/
def k14 : Class := { plain "int" none with kind := .primitive 'I', accessFlags := 0x411 }
/-- [I -/
def k15 : Class := { plain "[I" (some 0) with kind := .array 14 .int, interfaces := #[11, 2], accessFlags := 1041 }

/-- [Ljava/lang/Long; -/
def k16 : Class := { plain "[Ljava/lang/Long;" (some 0) with kind := .array 7 (.object "java/lang/Long"), interfaces := #[11, 2], accessFlags := 1041 }

def heap : Heap := #[{ cls := 8, slots := #[.ref 1, .null, .int 0], vm := .statics 8 },
  { cls := 16, slots := #[.ref 2, .ref 3, .ref 4, .ref 5, .ref 6, .ref 7, .ref 8, .ref 9, .ref 10, .ref 11, .ref 12, .ref 13, .ref 14, .ref 15, .ref 16, .ref 17, .ref 18, .ref 19, .ref 20, .ref 21, .ref 22, .ref 23, .ref 24, .ref 25, .ref 26, .ref 27, .ref 28, .ref 29, .ref 30, .ref 31, .ref 32, .ref 33, .ref 34, .ref 35, .ref 36, .ref 37, .ref 38, .ref 39, .ref 40, .ref 41, .ref 42, .ref 43, .ref 44, .ref 45, .ref 46, .ref 47, .ref 48, .ref 49, .ref 50, .ref 51, .ref 52, .ref 53, .ref 54, .ref 55, .ref 56, .ref 57, .ref 58, .ref 59, .ref 60, .ref 61, .ref 62, .ref 63, .ref 64, .ref 65, .ref 66, .ref 67, .ref 68, .ref 69, .ref 70, .ref 71, .ref 72, .ref 73, .ref 74, .ref 75, .ref 76, .ref 77, .ref 78, .ref 79, .ref 80, .ref 81, .ref 82, .ref 83, .ref 84, .ref 85, .ref 86, .ref 87, .ref 88, .ref 89, .ref 90, .ref 91, .ref 92, .ref 93, .ref 94, .ref 95, .ref 96, .ref 97, .ref 98, .ref 99, .ref 100, .ref 101, .ref 102, .ref 103, .ref 104, .ref 105, .ref 106, .ref 107, .ref 108, .ref 109, .ref 110, .ref 111, .ref 112, .ref 113, .ref 114, .ref 115, .ref 116, .ref 117, .ref 118, .ref 119, .ref 120, .ref 121, .ref 122, .ref 123, .ref 124, .ref 125, .ref 126, .ref 127, .ref 128, .ref 129, .ref 130, .ref 131, .ref 132, .ref 133, .ref 134, .ref 135, .ref 136, .ref 137, .ref 138, .ref 139, .ref 140, .ref 141, .ref 142, .ref 143, .ref 144, .ref 145, .ref 146, .ref 147, .ref 148, .ref 149, .ref 150, .ref 151, .ref 152, .ref 153, .ref 154, .ref 155, .ref 156, .ref 157, .ref 158, .ref 159, .ref 160, .ref 161, .ref 162, .ref 163, .ref 164, .ref 165, .ref 166, .ref 167, .ref 168, .ref 169, .ref 170, .ref 171, .ref 172, .ref 173, .ref 174, .ref 175, .ref 176, .ref 177, .ref 178, .ref 179, .ref 180, .ref 181, .ref 182, .ref 183, .ref 184, .ref 185, .ref 186, .ref 187, .ref 188, .ref 189, .ref 190, .ref 191, .ref 192, .ref 193, .ref 194, .ref 195, .ref 196, .ref 197, .ref 198, .ref 199, .ref 200, .ref 201, .ref 202, .ref 203, .ref 204, .ref 205, .ref 206, .ref 207, .ref 208, .ref 209, .ref 210, .ref 211, .ref 212, .ref 213, .ref 214, .ref 215, .ref 216, .ref 217, .ref 218, .ref 219, .ref 220, .ref 221, .ref 222, .ref 223, .ref 224, .ref 225, .ref 226, .ref 227, .ref 228, .ref 229, .ref 230, .ref 231, .ref 232, .ref 233, .ref 234, .ref 235, .ref 236, .ref 237, .ref 238, .ref 239, .ref 240, .ref 241, .ref 242, .ref 243, .ref 244, .ref 245, .ref 246, .ref 247, .ref 248, .ref 249, .ref 250, .ref 251, .ref 252, .ref 253, .ref 254, .ref 255, .ref 256, .ref 257], vm := .none },
  { cls := 7, slots := #[.long (-128)], vm := .none },
  { cls := 7, slots := #[.long (-127)], vm := .none },
  { cls := 7, slots := #[.long (-126)], vm := .none },
  { cls := 7, slots := #[.long (-125)], vm := .none },
  { cls := 7, slots := #[.long (-124)], vm := .none },
  { cls := 7, slots := #[.long (-123)], vm := .none },
  { cls := 7, slots := #[.long (-122)], vm := .none },
  { cls := 7, slots := #[.long (-121)], vm := .none },
  { cls := 7, slots := #[.long (-120)], vm := .none },
  { cls := 7, slots := #[.long (-119)], vm := .none },
  { cls := 7, slots := #[.long (-118)], vm := .none },
  { cls := 7, slots := #[.long (-117)], vm := .none },
  { cls := 7, slots := #[.long (-116)], vm := .none },
  { cls := 7, slots := #[.long (-115)], vm := .none },
  { cls := 7, slots := #[.long (-114)], vm := .none },
  { cls := 7, slots := #[.long (-113)], vm := .none },
  { cls := 7, slots := #[.long (-112)], vm := .none },
  { cls := 7, slots := #[.long (-111)], vm := .none },
  { cls := 7, slots := #[.long (-110)], vm := .none },
  { cls := 7, slots := #[.long (-109)], vm := .none },
  { cls := 7, slots := #[.long (-108)], vm := .none },
  { cls := 7, slots := #[.long (-107)], vm := .none },
  { cls := 7, slots := #[.long (-106)], vm := .none },
  { cls := 7, slots := #[.long (-105)], vm := .none },
  { cls := 7, slots := #[.long (-104)], vm := .none },
  { cls := 7, slots := #[.long (-103)], vm := .none },
  { cls := 7, slots := #[.long (-102)], vm := .none },
  { cls := 7, slots := #[.long (-101)], vm := .none },
  { cls := 7, slots := #[.long (-100)], vm := .none },
  { cls := 7, slots := #[.long (-99)], vm := .none },
  { cls := 7, slots := #[.long (-98)], vm := .none },
  { cls := 7, slots := #[.long (-97)], vm := .none },
  { cls := 7, slots := #[.long (-96)], vm := .none },
  { cls := 7, slots := #[.long (-95)], vm := .none },
  { cls := 7, slots := #[.long (-94)], vm := .none },
  { cls := 7, slots := #[.long (-93)], vm := .none },
  { cls := 7, slots := #[.long (-92)], vm := .none },
  { cls := 7, slots := #[.long (-91)], vm := .none },
  { cls := 7, slots := #[.long (-90)], vm := .none },
  { cls := 7, slots := #[.long (-89)], vm := .none },
  { cls := 7, slots := #[.long (-88)], vm := .none },
  { cls := 7, slots := #[.long (-87)], vm := .none },
  { cls := 7, slots := #[.long (-86)], vm := .none },
  { cls := 7, slots := #[.long (-85)], vm := .none },
  { cls := 7, slots := #[.long (-84)], vm := .none },
  { cls := 7, slots := #[.long (-83)], vm := .none },
  { cls := 7, slots := #[.long (-82)], vm := .none },
  { cls := 7, slots := #[.long (-81)], vm := .none },
  { cls := 7, slots := #[.long (-80)], vm := .none },
  { cls := 7, slots := #[.long (-79)], vm := .none },
  { cls := 7, slots := #[.long (-78)], vm := .none },
  { cls := 7, slots := #[.long (-77)], vm := .none },
  { cls := 7, slots := #[.long (-76)], vm := .none },
  { cls := 7, slots := #[.long (-75)], vm := .none },
  { cls := 7, slots := #[.long (-74)], vm := .none },
  { cls := 7, slots := #[.long (-73)], vm := .none },
  { cls := 7, slots := #[.long (-72)], vm := .none },
  { cls := 7, slots := #[.long (-71)], vm := .none },
  { cls := 7, slots := #[.long (-70)], vm := .none },
  { cls := 7, slots := #[.long (-69)], vm := .none },
  { cls := 7, slots := #[.long (-68)], vm := .none },
  { cls := 7, slots := #[.long (-67)], vm := .none },
  { cls := 7, slots := #[.long (-66)], vm := .none },
  { cls := 7, slots := #[.long (-65)], vm := .none },
  { cls := 7, slots := #[.long (-64)], vm := .none },
  { cls := 7, slots := #[.long (-63)], vm := .none },
  { cls := 7, slots := #[.long (-62)], vm := .none },
  { cls := 7, slots := #[.long (-61)], vm := .none },
  { cls := 7, slots := #[.long (-60)], vm := .none },
  { cls := 7, slots := #[.long (-59)], vm := .none },
  { cls := 7, slots := #[.long (-58)], vm := .none },
  { cls := 7, slots := #[.long (-57)], vm := .none },
  { cls := 7, slots := #[.long (-56)], vm := .none },
  { cls := 7, slots := #[.long (-55)], vm := .none },
  { cls := 7, slots := #[.long (-54)], vm := .none },
  { cls := 7, slots := #[.long (-53)], vm := .none },
  { cls := 7, slots := #[.long (-52)], vm := .none },
  { cls := 7, slots := #[.long (-51)], vm := .none },
  { cls := 7, slots := #[.long (-50)], vm := .none },
  { cls := 7, slots := #[.long (-49)], vm := .none },
  { cls := 7, slots := #[.long (-48)], vm := .none },
  { cls := 7, slots := #[.long (-47)], vm := .none },
  { cls := 7, slots := #[.long (-46)], vm := .none },
  { cls := 7, slots := #[.long (-45)], vm := .none },
  { cls := 7, slots := #[.long (-44)], vm := .none },
  { cls := 7, slots := #[.long (-43)], vm := .none },
  { cls := 7, slots := #[.long (-42)], vm := .none },
  { cls := 7, slots := #[.long (-41)], vm := .none },
  { cls := 7, slots := #[.long (-40)], vm := .none },
  { cls := 7, slots := #[.long (-39)], vm := .none },
  { cls := 7, slots := #[.long (-38)], vm := .none },
  { cls := 7, slots := #[.long (-37)], vm := .none },
  { cls := 7, slots := #[.long (-36)], vm := .none },
  { cls := 7, slots := #[.long (-35)], vm := .none },
  { cls := 7, slots := #[.long (-34)], vm := .none },
  { cls := 7, slots := #[.long (-33)], vm := .none },
  { cls := 7, slots := #[.long (-32)], vm := .none },
  { cls := 7, slots := #[.long (-31)], vm := .none },
  { cls := 7, slots := #[.long (-30)], vm := .none },
  { cls := 7, slots := #[.long (-29)], vm := .none },
  { cls := 7, slots := #[.long (-28)], vm := .none },
  { cls := 7, slots := #[.long (-27)], vm := .none },
  { cls := 7, slots := #[.long (-26)], vm := .none },
  { cls := 7, slots := #[.long (-25)], vm := .none },
  { cls := 7, slots := #[.long (-24)], vm := .none },
  { cls := 7, slots := #[.long (-23)], vm := .none },
  { cls := 7, slots := #[.long (-22)], vm := .none },
  { cls := 7, slots := #[.long (-21)], vm := .none },
  { cls := 7, slots := #[.long (-20)], vm := .none },
  { cls := 7, slots := #[.long (-19)], vm := .none },
  { cls := 7, slots := #[.long (-18)], vm := .none },
  { cls := 7, slots := #[.long (-17)], vm := .none },
  { cls := 7, slots := #[.long (-16)], vm := .none },
  { cls := 7, slots := #[.long (-15)], vm := .none },
  { cls := 7, slots := #[.long (-14)], vm := .none },
  { cls := 7, slots := #[.long (-13)], vm := .none },
  { cls := 7, slots := #[.long (-12)], vm := .none },
  { cls := 7, slots := #[.long (-11)], vm := .none },
  { cls := 7, slots := #[.long (-10)], vm := .none },
  { cls := 7, slots := #[.long (-9)], vm := .none },
  { cls := 7, slots := #[.long (-8)], vm := .none },
  { cls := 7, slots := #[.long (-7)], vm := .none },
  { cls := 7, slots := #[.long (-6)], vm := .none },
  { cls := 7, slots := #[.long (-5)], vm := .none },
  { cls := 7, slots := #[.long (-4)], vm := .none },
  { cls := 7, slots := #[.long (-3)], vm := .none },
  { cls := 7, slots := #[.long (-2)], vm := .none },
  { cls := 7, slots := #[.long (-1)], vm := .none },
  { cls := 7, slots := #[.long 0], vm := .none },
  { cls := 7, slots := #[.long 1], vm := .none },
  { cls := 7, slots := #[.long 2], vm := .none },
  { cls := 7, slots := #[.long 3], vm := .none },
  { cls := 7, slots := #[.long 4], vm := .none },
  { cls := 7, slots := #[.long 5], vm := .none },
  { cls := 7, slots := #[.long 6], vm := .none },
  { cls := 7, slots := #[.long 7], vm := .none },
  { cls := 7, slots := #[.long 8], vm := .none },
  { cls := 7, slots := #[.long 9], vm := .none },
  { cls := 7, slots := #[.long 10], vm := .none },
  { cls := 7, slots := #[.long 11], vm := .none },
  { cls := 7, slots := #[.long 12], vm := .none },
  { cls := 7, slots := #[.long 13], vm := .none },
  { cls := 7, slots := #[.long 14], vm := .none },
  { cls := 7, slots := #[.long 15], vm := .none },
  { cls := 7, slots := #[.long 16], vm := .none },
  { cls := 7, slots := #[.long 17], vm := .none },
  { cls := 7, slots := #[.long 18], vm := .none },
  { cls := 7, slots := #[.long 19], vm := .none },
  { cls := 7, slots := #[.long 20], vm := .none },
  { cls := 7, slots := #[.long 21], vm := .none },
  { cls := 7, slots := #[.long 22], vm := .none },
  { cls := 7, slots := #[.long 23], vm := .none },
  { cls := 7, slots := #[.long 24], vm := .none },
  { cls := 7, slots := #[.long 25], vm := .none },
  { cls := 7, slots := #[.long 26], vm := .none },
  { cls := 7, slots := #[.long 27], vm := .none },
  { cls := 7, slots := #[.long 28], vm := .none },
  { cls := 7, slots := #[.long 29], vm := .none },
  { cls := 7, slots := #[.long 30], vm := .none },
  { cls := 7, slots := #[.long 31], vm := .none },
  { cls := 7, slots := #[.long 32], vm := .none },
  { cls := 7, slots := #[.long 33], vm := .none },
  { cls := 7, slots := #[.long 34], vm := .none },
  { cls := 7, slots := #[.long 35], vm := .none },
  { cls := 7, slots := #[.long 36], vm := .none },
  { cls := 7, slots := #[.long 37], vm := .none },
  { cls := 7, slots := #[.long 38], vm := .none },
  { cls := 7, slots := #[.long 39], vm := .none },
  { cls := 7, slots := #[.long 40], vm := .none },
  { cls := 7, slots := #[.long 41], vm := .none },
  { cls := 7, slots := #[.long 42], vm := .none },
  { cls := 7, slots := #[.long 43], vm := .none },
  { cls := 7, slots := #[.long 44], vm := .none },
  { cls := 7, slots := #[.long 45], vm := .none },
  { cls := 7, slots := #[.long 46], vm := .none },
  { cls := 7, slots := #[.long 47], vm := .none },
  { cls := 7, slots := #[.long 48], vm := .none },
  { cls := 7, slots := #[.long 49], vm := .none },
  { cls := 7, slots := #[.long 50], vm := .none },
  { cls := 7, slots := #[.long 51], vm := .none },
  { cls := 7, slots := #[.long 52], vm := .none },
  { cls := 7, slots := #[.long 53], vm := .none },
  { cls := 7, slots := #[.long 54], vm := .none },
  { cls := 7, slots := #[.long 55], vm := .none },
  { cls := 7, slots := #[.long 56], vm := .none },
  { cls := 7, slots := #[.long 57], vm := .none },
  { cls := 7, slots := #[.long 58], vm := .none },
  { cls := 7, slots := #[.long 59], vm := .none },
  { cls := 7, slots := #[.long 60], vm := .none },
  { cls := 7, slots := #[.long 61], vm := .none },
  { cls := 7, slots := #[.long 62], vm := .none },
  { cls := 7, slots := #[.long 63], vm := .none },
  { cls := 7, slots := #[.long 64], vm := .none },
  { cls := 7, slots := #[.long 65], vm := .none },
  { cls := 7, slots := #[.long 66], vm := .none },
  { cls := 7, slots := #[.long 67], vm := .none },
  { cls := 7, slots := #[.long 68], vm := .none },
  { cls := 7, slots := #[.long 69], vm := .none },
  { cls := 7, slots := #[.long 70], vm := .none },
  { cls := 7, slots := #[.long 71], vm := .none },
  { cls := 7, slots := #[.long 72], vm := .none },
  { cls := 7, slots := #[.long 73], vm := .none },
  { cls := 7, slots := #[.long 74], vm := .none },
  { cls := 7, slots := #[.long 75], vm := .none },
  { cls := 7, slots := #[.long 76], vm := .none },
  { cls := 7, slots := #[.long 77], vm := .none },
  { cls := 7, slots := #[.long 78], vm := .none },
  { cls := 7, slots := #[.long 79], vm := .none },
  { cls := 7, slots := #[.long 80], vm := .none },
  { cls := 7, slots := #[.long 81], vm := .none },
  { cls := 7, slots := #[.long 82], vm := .none },
  { cls := 7, slots := #[.long 83], vm := .none },
  { cls := 7, slots := #[.long 84], vm := .none },
  { cls := 7, slots := #[.long 85], vm := .none },
  { cls := 7, slots := #[.long 86], vm := .none },
  { cls := 7, slots := #[.long 87], vm := .none },
  { cls := 7, slots := #[.long 88], vm := .none },
  { cls := 7, slots := #[.long 89], vm := .none },
  { cls := 7, slots := #[.long 90], vm := .none },
  { cls := 7, slots := #[.long 91], vm := .none },
  { cls := 7, slots := #[.long 92], vm := .none },
  { cls := 7, slots := #[.long 93], vm := .none },
  { cls := 7, slots := #[.long 94], vm := .none },
  { cls := 7, slots := #[.long 95], vm := .none },
  { cls := 7, slots := #[.long 96], vm := .none },
  { cls := 7, slots := #[.long 97], vm := .none },
  { cls := 7, slots := #[.long 98], vm := .none },
  { cls := 7, slots := #[.long 99], vm := .none },
  { cls := 7, slots := #[.long 100], vm := .none },
  { cls := 7, slots := #[.long 101], vm := .none },
  { cls := 7, slots := #[.long 102], vm := .none },
  { cls := 7, slots := #[.long 103], vm := .none },
  { cls := 7, slots := #[.long 104], vm := .none },
  { cls := 7, slots := #[.long 105], vm := .none },
  { cls := 7, slots := #[.long 106], vm := .none },
  { cls := 7, slots := #[.long 107], vm := .none },
  { cls := 7, slots := #[.long 108], vm := .none },
  { cls := 7, slots := #[.long 109], vm := .none },
  { cls := 7, slots := #[.long 110], vm := .none },
  { cls := 7, slots := #[.long 111], vm := .none },
  { cls := 7, slots := #[.long 112], vm := .none },
  { cls := 7, slots := #[.long 113], vm := .none },
  { cls := 7, slots := #[.long 114], vm := .none },
  { cls := 7, slots := #[.long 115], vm := .none },
  { cls := 7, slots := #[.long 116], vm := .none },
  { cls := 7, slots := #[.long 117], vm := .none },
  { cls := 7, slots := #[.long 118], vm := .none },
  { cls := 7, slots := #[.long 119], vm := .none },
  { cls := 7, slots := #[.long 120], vm := .none },
  { cls := 7, slots := #[.long 121], vm := .none },
  { cls := 7, slots := #[.long 122], vm := .none },
  { cls := 7, slots := #[.long 123], vm := .none },
  { cls := 7, slots := #[.long 124], vm := .none },
  { cls := 7, slots := #[.long 125], vm := .none },
  { cls := 7, slots := #[.long 126], vm := .none },
  { cls := 7, slots := #[.long 127], vm := .none }]
def classes : Array Class := #[k0, k1, k2, k3, k4, k5, k6, k7, k8, k9, k10, k11, k12, k13, k14, k15, k16]
def interned : List (Array UInt16 × Addr) := []
def slotsUsed : Nat := 515
def theMethod : MethodId := ⟨1, 1⟩
def args0 : Array Value := #[.long 5, .long 7, .long 6, .int 2]
def aboutOver (below : List Frame) : State where
  vm := { classes := classes, interned := interned.toArray }
  heap := heap
  slotsUsed := slotsUsed
  threads := #[{ frames := .invoking theMethod args0 :: below }]
def below0 : List Frame := [.native { method := ⟨0, 0⟩, args := #[] }]
def about1 : State := aboutOver below0
def p0 : Program := .bare "" "" ""
def e0 : Env := launch0.env 0 0 0
theorem w_frames : about1.frames = Frame.invoking theMethod args0 :: below0 := rfl
set_option maxRecDepth 65536 in
theorem w_args : argsFit about1.vm theMethod args0 = true := by decide +kernel
set_option maxRecDepth 65536 in
theorem w_heap : heapFits about1 = true := by decide +kernel
set_option maxRecDepth 65536 in
theorem w_runnable : about1.curStatus? = some .runnable := by decide +kernel
set_option maxRecDepth 65536 in
theorem w_alone : about1.alone = true := by decide +kernel
set_option maxRecDepth 65536 in
theorem w_named : about1.methodNamed? x = some theMethod := by decide +kernel
set_option maxRecDepth 65536 in
theorem w_hears : about1.hears theMethod below0 = true := by decide +kernel
set_option maxRecDepth 65536 in
theorem w_ripe : about1.ripe theMethod args0 below0 = true := by decide +kernel
theorem w_running : about1.status = .running := rfl
set_option maxRecDepth 65536 in
theorem w_room : about1.hasRoom e0.platform room_1 = true :=
  launch0.hasRoom_least _ room_1 (by decide +kernel) (by decide +kernel) (by decide +kernel) (by decide +kernel) (by decide +kernel) (by decide +kernel)
theorem allAtoms_all (ts : List Jvm.Cond) (a : Array Jvm.Value) (st : Jvm.State) : (allAtoms ts).before a st = ts.all (fun c => c.before a st) := by
  induction ts with
  | nil => rfl
  | cons c t ih =>
    show (Jvm.Cond.and c (allAtoms t)).before a st = _
    rw [Jvm.Cond.before_and, ih, List.all_cons]
def words1 : List Jvm.Cond := Jvm.Cond.code x code maxLocals ret :: tables_1
/-- a 'code' word, met by the world's own term for the bytes: nothing is compared byte by byte -/
theorem code_word {y : MethodName} {bytes : ByteArray} {mx : Nat} {rt : Option FieldType} {a : Array Value} {s : State} {m : MethodId} {meth : Method} {c : Code} (h1 : s.methodNamed? y = some m) (h2 : s.vm.method? m = some meth) (h3 : meth.code = some c) (h4 : c.code = bytes)
    (h5 : (c.maxLocals == mx && c.exceptionTable.isEmpty && decide (c.maxStack ≤ mostOperands) && decide (meth.sig.returnType = rt) && !meth.locks && decide (parseMethodDescriptor y.desc = some meth.sig)) = true) : (Jvm.Cond.code y bytes mx rt).before a s = true := by
  simp only [Bool.and_eq_true, beq_iff_eq, Bool.not_eq_true', decide_eq_true_eq] at h5
  obtain ⟨⟨⟨⟨⟨g1, g2⟩, g3⟩, g4⟩, g5⟩, g6⟩ := h5
  simp [Cond.before, Cond.holds, Cond.value, h1, h2, h3, h4, g1, g2, g3, g4, g5, g6]
def isCode : Jvm.Cond → Bool
  | .code _ _ _ _ => true
  | _ => false
theorem all_split {L : List Jvm.Cond} {P : Jvm.Cond → Bool} (h1 : L.all (fun c => isCode c || P c) = true) (h2 : ∀ c ∈ L.filter isCode, P c = true) : L.all P = true := by
  refine List.all_eq_true.mpr fun c hc => ?_
  have h := List.all_eq_true.mp h1 c hc
  rcases Bool.eq_false_or_eq_true (isCode c) with hi | hi
  · exact h2 c (List.mem_filter.mpr ⟨hc, hi⟩)
  · simpa [hi] using h
set_option maxRecDepth 65536 in
theorem w_c0 : (Jvm.Cond.code x code maxLocals ret).before args0 about1 = true := code_word (m := ⟨1, 1⟩) (meth := k1m1) (c := k1c1) (by decide +kernel) rfl rfl rfl (by decide +kernel)
set_option maxRecDepth 65536 in
theorem w_c1 : (Jvm.Cond.code ({ cls := "java/lang/Long", name := "valueOf", desc := "(J)Ljava/lang/Long;" } : Jvm.MethodName) jdk_35_method_24_code (3 : Nat) (Option.some (Jvm.ClassFile.FieldType.object "java/lang/Long"))).before args0 about1 = true := code_word (m := ⟨7, 0⟩) (meth := k7m0) (c := k7c0) (by decide +kernel) rfl rfl rfl (by decide +kernel)
set_option maxRecDepth 65536 in
theorem w_c2 : (Jvm.Cond.code ({ cls := "com/example/lading/lading/core/Occurrence", name := "<init>", desc := "(JLjava/lang/Long;)V" } : Jvm.MethodName) prog_25_method_1_code (4 : Nat) (Option.none : Option Jvm.ClassFile.FieldType)).before args0 about1 = true := code_word (m := ⟨9, 0⟩) (meth := k9m0) (c := k9c0) (by decide +kernel) rfl rfl rfl (by decide +kernel)
set_option maxRecDepth 65536 in
theorem w_c3 : (Jvm.Cond.code ({ cls := "java/lang/Object", name := "<init>", desc := "()V" } : Jvm.MethodName) object_method_1_code (1 : Nat) (Option.none : Option Jvm.ClassFile.FieldType)).before args0 about1 = true := code_word (m := ⟨0, 0⟩) (meth := k0m0) (c := k0c0) (by decide +kernel) rfl rfl rfl (by decide +kernel)
set_option maxRecDepth 65536 in
theorem w_c4 : (Jvm.Cond.code ({ cls := "com/example/lading/lading/core/Occurrence", name := "allows", desc := "(J)Z" } : Jvm.MethodName) prog_25_method_5_code (3 : Nat) (Option.some Jvm.ClassFile.FieldType.boolean)).before args0 about1 = true := code_word (m := ⟨9, 1⟩) (meth := k9m1) (c := k9c1) (by decide +kernel) rfl rfl rfl (by decide +kernel)
set_option maxRecDepth 65536 in
theorem w_c5 : (Jvm.Cond.code ({ cls := "java/lang/Long", name := "<init>", desc := "(J)V" } : Jvm.MethodName) jdk_35_method_26_code (3 : Nat) (Option.none : Option Jvm.ClassFile.FieldType)).before args0 about1 = true := code_word (m := ⟨7, 1⟩) (meth := k7m1) (c := k7c1) (by decide +kernel) rfl rfl rfl (by decide +kernel)
set_option maxRecDepth 65536 in
theorem w_c6 : (Jvm.Cond.code ({ cls := "java/lang/Number", name := "<init>", desc := "()V" } : Jvm.MethodName) jdk_18_method_1_code (1 : Nat) (Option.none : Option Jvm.ClassFile.FieldType)).before args0 about1 = true := code_word (m := ⟨3, 0⟩) (meth := k3m0) (c := k3c0) (by decide +kernel) rfl rfl rfl (by decide +kernel)
set_option maxRecDepth 65536 in
theorem w_c7 : (Jvm.Cond.code ({ cls := "java/lang/Long", name := "longValue", desc := "()J" } : Jvm.MethodName) jdk_35_method_31_code (1 : Nat) (Option.some Jvm.ClassFile.FieldType.long)).before args0 about1 = true := code_word (m := ⟨7, 2⟩) (meth := k7m2) (c := k7c2) (by decide +kernel) rfl rfl rfl (by decide +kernel)
set_option maxRecDepth 65536 in
theorem w_c8 : (Jvm.Cond.code ({ cls := "java/lang/Math", name := "max", desc := "(JJ)J" } : Jvm.MethodName) jdk_29_method_66_code (4 : Nat) (Option.some Jvm.ClassFile.FieldType.long)).before args0 about1 = true := code_word (m := ⟨10, 1⟩) (meth := k10m1) (c := k10c1) (by decide +kernel) rfl rfl rfl (by decide +kernel)
set_option maxRecDepth 65536 in
theorem w_c9 : (Jvm.Cond.code ({ cls := "java/lang/Math", name := "min", desc := "(JJ)J" } : Jvm.MethodName) jdk_29_method_70_code (4 : Nat) (Option.some Jvm.ClassFile.FieldType.long)).before args0 about1 = true := code_word (m := ⟨10, 2⟩) (meth := k10m2) (c := k10c2) (by decide +kernel) rfl rfl rfl (by decide +kernel)
def codes1 : List Jvm.Cond := [Jvm.Cond.code x code maxLocals ret, Jvm.Cond.code ({ cls := "java/lang/Long", name := "valueOf", desc := "(J)Ljava/lang/Long;" } : Jvm.MethodName) jdk_35_method_24_code (3 : Nat) (Option.some (Jvm.ClassFile.FieldType.object "java/lang/Long")), Jvm.Cond.code ({ cls := "com/example/lading/lading/core/Occurrence", name := "<init>", desc := "(JLjava/lang/Long;)V" } : Jvm.MethodName) prog_25_method_1_code (4 : Nat) (Option.none : Option Jvm.ClassFile.FieldType), Jvm.Cond.code ({ cls := "java/lang/Object", name := "<init>", desc := "()V" } : Jvm.MethodName) object_method_1_code (1 : Nat) (Option.none : Option Jvm.ClassFile.FieldType), Jvm.Cond.code ({ cls := "com/example/lading/lading/core/Occurrence", name := "allows", desc := "(J)Z" } : Jvm.MethodName) prog_25_method_5_code (3 : Nat) (Option.some Jvm.ClassFile.FieldType.boolean), Jvm.Cond.code ({ cls := "java/lang/Long", name := "<init>", desc := "(J)V" } : Jvm.MethodName) jdk_35_method_26_code (3 : Nat) (Option.none : Option Jvm.ClassFile.FieldType), Jvm.Cond.code ({ cls := "java/lang/Number", name := "<init>", desc := "()V" } : Jvm.MethodName) jdk_18_method_1_code (1 : Nat) (Option.none : Option Jvm.ClassFile.FieldType), Jvm.Cond.code ({ cls := "java/lang/Long", name := "longValue", desc := "()J" } : Jvm.MethodName) jdk_35_method_31_code (1 : Nat) (Option.some Jvm.ClassFile.FieldType.long), Jvm.Cond.code ({ cls := "java/lang/Math", name := "max", desc := "(JJ)J" } : Jvm.MethodName) jdk_29_method_66_code (4 : Nat) (Option.some Jvm.ClassFile.FieldType.long), Jvm.Cond.code ({ cls := "java/lang/Math", name := "min", desc := "(JJ)J" } : Jvm.MethodName) jdk_29_method_70_code (4 : Nat) (Option.some Jvm.ClassFile.FieldType.long)]
set_option maxRecDepth 65536 in
theorem codes_eq : words1.filter isCode = codes1 := rfl
theorem w_codes : ∀ c ∈ words1.filter isCode, c.before args0 about1 = true := by
  rw [codes_eq]
  intro c hc
  simp only [codes1, List.mem_cons, List.not_mem_nil, or_false] at hc
  rcases hc with rfl | rfl | rfl | rfl | rfl | rfl | rfl | rfl | rfl | rfl
  · exact w_c0
  · exact w_c1
  · exact w_c2
  · exact w_c3
  · exact w_c4
  · exact w_c5
  · exact w_c6
  · exact w_c7
  · exact w_c8
  · exact w_c9
set_option maxRecDepth 65536 in
theorem w_t1 : (words1.take 24).all (fun c => isCode c || c.before args0 about1) = true := by decide +kernel
set_option maxRecDepth 65536 in
theorem w_t2 : ((words1.drop 24).take 24).all (fun c => isCode c || c.before args0 about1) = true := by decide +kernel
set_option maxRecDepth 65536 in
theorem w_t3 : ((words1.drop 24).drop 24).all (fun c => isCode c || c.before args0 about1) = true := by decide +kernel
theorem w_tables : (allAtoms (Jvm.Cond.code x code maxLocals ret :: tables_1)).before args0 about1 = true := by
  rw [allAtoms_all]
  show words1.all (fun c => c.before args0 about1) = true
  refine all_split ?_ w_codes
  rw [← List.take_append_drop 24 words1, List.all_append, w_t1, ← List.take_append_drop 24 (words1.drop 24), List.all_append, w_t2, w_t3]
  rfl
set_option maxRecDepth 65536 in
theorem w_rest : rest_1_c.before args0 about1 = true := by decide +kernel
set_option maxRecDepth 65536 in
theorem w_case : (Jvm.Cond.and given_1 narrow_1).before args0 about1 = true := by decide +kernel
theorem w_applies : (headSpec (Jvm.Cond.code x code maxLocals ret :: tables_1) room_1).applies x e0.platform about1 = true :=
  (Spec.applies_iff w_frames).mpr ⟨w_running, w_runnable, w_alone, w_named, w_hears, w_ripe, w_room, w_tables⟩
theorem atStart : AtStart classFile x code maxLocals ret World_1 tables_1 room_1 Calls_1 rest_1 Pre_1 launch0 p0 e0 about1 theMethod args0 below0 :=
  ⟨lists_1, trivial, launch0.admits_env _ _ _, launch0.least_env, fairChoices_fair.cas, fairChoices_fair.clock, w_frames, w_args, w_heap, w_applies, trivial, w_rest, w_case⟩
end start1
theorem witness_1 : WitnessClaimed_1 := ⟨start1.p0, start1.e0, start1.about1, start1.theMethod, start1.args0, start1.below0, start1.atStart⟩
end Jvm.Pilot.@@N@@
