import JvmDerived
import JvmDerived.Pilot.@@N@@Statement
import JvmDerived.Pilot.@@N@@Code
set_option linter.unusedVariables false
set_option linter.unusedSimpArgs false
namespace Jvm.RoadKit
open Sem ClassFile Op Lib Jvm.Stand Jvm.Free Jvm.LawKit
section New
variable {p : Program} {l : Launch} {e : Env} {R : Room} {s : State} {m : MethodId} {args : Array Value} {below : List Frame} {meth : Method} {c : Code} {T : State} {locs : List Loc} {cells slots : Nat}
theorem own_retV (X : Stand p l e R s m args below meth c T locs cells slots) (hx : p.tables.exec = Jvm.exec) {pc : Nat} {Ls : Array Slot} {w : Value} {rest : List Value} {t : FieldType} (hret : meth.sig.returnType = some t) (ht : t.isReference = true) (hw : w.isRef = true)
    (hd : decode c.code pc = .ok (.areturn, 1)) {fs : List Frame} (hl : ∀ (f : JFrame) (acts : List Action), f.method = m → f.locked = none → f.entered = [] → (doReturn e (T.setTop f) acts (some w)).1 = T.setFrames fs) :
    Steps p.tables e below (T.setTop (mkF m pc Ls (w :: rest))) (T.setFrames fs) :=
  retOut X hx hret (by cases t <;> first | rfl | cases ht) (Or.inr (Or.inr (Or.inr (Or.inr ⟨rfl, ht, hw⟩)))) hd hl
theorem own_retI (X : Stand p l e R s m args below meth c T locs cells slots) (hx : p.tables.exec = Jvm.exec) {pc : Nat} {Ls : Array Slot} {z : Int32} {rest : List Value} (hret : meth.sig.returnType = some .int)
    (hd : decode c.code pc = .ok (.ireturn, 1)) {fs : List Frame} (hl : ∀ (f : JFrame) (acts : List Action), f.method = m → f.locked = none → f.entered = [] → (doReturn e (T.setTop f) acts (some (.int z))).1 = T.setFrames fs) :
    Steps p.tables e below (T.setTop (mkF m pc Ls (.int z :: rest))) (T.setFrames fs) :=
  retOut X hx hret rfl (Or.inl ⟨rfl, Or.inl rfl, z, rfl⟩) hd hl
theorem own_retL (X : Stand p l e R s m args below meth c T locs cells slots) (hx : p.tables.exec = Jvm.exec) {pc : Nat} {Ls : Array Slot} {z : Int64} {rest : List Value} (hret : meth.sig.returnType = some .long)
    (hd : decode c.code pc = .ok (.lreturn, 1)) {fs : List Frame} (hl : ∀ (f : JFrame) (acts : List Action), f.method = m → f.locked = none → f.entered = [] → (doReturn e (T.setTop f) acts (some (.long z))).1 = T.setFrames fs) :
    Steps p.tables e below (T.setTop (mkF m pc Ls (.long z :: rest))) (T.setFrames fs) :=
  retOut X hx hret rfl (Or.inr (Or.inl ⟨rfl, rfl, z, rfl⟩)) hd hl
theorem own_go {tb : Tables} {e : Env} {below : List Frame} {A A' : State} {P : State → Outcome → Prop} (st : ∀ t, Steps tb e below A' t → Steps tb e below A t) (h : ∃ s₂ o, Steps tb e below A' s₂ ∧ P s₂ o) : ∃ s₂ o, Steps tb e below A s₂ ∧ P s₂ o :=
  let ⟨s₂, o, h1, h2⟩ := h
  ⟨s₂, o, st _ h1, h2⟩
theorem own_fld_inj {Z : State} {h : Heap} {a : Addr} {C n d : String} {v w : Value} (F : Fld Z h a C n d v) (G : Fld Z h a C n d w) : v = w := by
  obtain ⟨c1, cf1, k1, i1, f1, p1, p2, -, -, -, -, p5⟩ := F
  obtain ⟨c2, cf2, k2, i2, f2, q1, q2, -, -, -, -, q5⟩ := G
  rw [p1] at q1; cases q1
  rw [p2] at q2; cases q2
  have := p5.symm.trans q5
  simpa using this
theorem own_fld_ne {Z : State} {h : Heap} {a b : Addr} {C n d : String} {i j : Int32} (F : Fld Z h a C n d (.int i)) (G : Fld Z h b C n d (.int j)) (hij : ¬ i = j) : ¬ a = b := fun q => by
  subst q
  exact hij (Value.int.inj (own_fld_inj F G))
theorem own_keep_ext {h h' : Heap} (K : Keep h h' []) : Ext h h' := ⟨K.1, fun a c q => K.2.1 a c q nin0⟩
theorem own_sta_keep {Z : State} {h h' : Heap} {C n d K : String} {v : Value} {a : Addr} (F : Sta Z h C n d v) (k : Keep h h' [a]) (E : Exa Z h a K) : Sta Z h' C n d v := by
  obtain ⟨cf, i, kk, f, st, cell, h1, h2, h3, h4, h5, h6, h7⟩ := F
  refine ⟨cf, i, kk, f, st, cell, h1, h2, h3, h4, k.2.1 _ _ h5 (ninS (fun q => ?_) nin0), h6, h7⟩
  obtain ⟨cell', k', g1, -, -, g4, -⟩ := E
  subst q
  cases h5.symm.trans g1
  rw [h6] at g4; cases g4
theorem own_ext_trans {h h' h'' : Heap} (E : Ext h h') (F : Ext h' h'') : Ext h h'' := ⟨Nat.le_trans E.1 F.1, fun a c q => F.2 a c (E.2 a c q)⟩
theorem own_ext_keep {h h' h'' : Heap} {ws : List Addr} (E : Ext h h') (K : Keep h' h'' ws) (q : ∀ x ∈ ws, h.size ≤ x) : Ext h h'' :=
  ⟨Nat.le_trans E.1 K.1, fun a c r => K.2.1 a c (E.2 a c r) fun z => absurd (Array.getElem?_eq_some_iff.mp r).1 (Nat.not_lt.mpr (q a z))⟩
theorem own_ext_wr {h h' h'' : Heap} {b : Addr} {sl : Nat} {v : Value} (E : Ext h h') (W : Wr h' h'' b sl v) (q : h.size ≤ b) : Ext h h'' :=
  own_ext_keep E (Keep.of_wr W) fun x hx => by cases List.mem_singleton.mp hx; exact q
end New
end Jvm.RoadKit
namespace Jvm.Pilot.@@N@@
open Jvm Jvm.ClassFile Sem Op Lib Jvm.Free Jvm.Stand Jvm.LawKit Jvm.RoadKit Bundle Jvm.Pilot.@@N@@.Jvm.D
def fx (a b : Int64) : Int32 := if lcmpW a b = (0 : Int32) then 1 else 0
theorem own_cache {Z : State} {args : Array Value} {wC : Addr} {clC : Cell} (ev : (Term.static "java/lang/Long$LongCache" "cache" "[Ljava/lang/Long;").eval args Z none [] Z = some (.ref wC)) (A : Arr Z Z.heap wC clC (.object "java/lang/Long"))
    (h4 : (Jvm.Cond.eq (Term.length (Term.static "java/lang/Long$LongCache" "cache" "[Ljava/lang/Long;")) (Term.int (256 : Int32))).value args Z none Z [] = some true)
    (h5 : (Jvm.Cond.all (Term.static "java/lang/Long$LongCache" "cache" "[Ljava/lang/Long;") (Jvm.Cond.and (Jvm.Cond.exactly (Term.elem (Term.static "java/lang/Long$LongCache" "cache" "[Ljava/lang/Long;") (Term.index 0)) "java/lang/Long") (Jvm.Cond.eq (Term.field (Term.elem (Term.static "java/lang/Long$LongCache" "cache" "[Ljava/lang/Long;") (Term.index 0)) "java/lang/Long" "value" "J") (Term.op1 Unary.i2l (Term.sub (Term.index 0) (Term.int (128 : Int32))))))).value args Z none Z [] = some true) :
    clC.slots.size = 256 ∧ ∀ j : Nat, j < 256 → ∃ b : Addr, clC.slots[j]? = some (.ref b) ∧ Exa Z Z.heap b "java/lang/Long" ∧ Fld Z Z.heap b "java/lang/Long" "value" "J" (.long ((j.toInt32 - 128).toInt64)) := by
  have hat := IntBox.arrayAt_of A.1 A.2.1 A.2.2
  obtain ⟨hsz, hsize⟩ := IntBox.length_fwd (Cond.before_iff.mpr h4) ev A.1 A.2.1 A.2.2
  have h256 : clC.slots.size = 256 := by
    have e := len_toInt hsz
    rw [hsize, show (256 : Int32).toInt = 256 from by decide] at e
    omega
  refine ⟨h256, fun j hj => ?_⟩
  have hj' := Cond.all_elim ev hat (show _ from h5) j (by rw [h256]; exact hj)
  obtain ⟨hex, heq⟩ := and_e hj'
  obtain ⟨hnn, hback⟩ := IntBox.place_nonneg j hj
  have evj : (Term.static "java/lang/Long$LongCache" "cache" "[Ljava/lang/Long;").eval args Z none [j] Z = some (.ref wC) := ev
  have evE : (Term.elem (Term.static "java/lang/Long$LongCache" "cache" "[Ljava/lang/Long;") (Term.index 0)).eval args Z none [j] Z = clC.slots[j]? := by
    rw [elem_f evj (show (Term.index 0).eval args Z none [j] Z = some (.int j.toInt32) from rfl) hat hnn, hback]
  obtain ⟨b, c, cell, k, e1, e2, e3, e4, e5, e6, e7⟩ := Cond.exactly_spec (show Jvm.Cond.holds args Z none Z [j] _ = true from by rw [Jvm.Cond.holds, hex]; rfl)
  have ef : (Term.field (Term.elem (Term.static "java/lang/Long$LongCache" "cache" "[Ljava/lang/Long;") (Term.index 0)) "java/lang/Long" "value" "J").eval args Z none [j] Z = some (.long ((j.toInt32 - 128).toInt64)) := by
    have eu : (Term.op1 Unary.i2l (Term.sub (Term.index 0) (Term.int (128 : Int32)))).eval args Z none [j] Z = some (.long ((j.toInt32 - 128).toInt64)) := rfl
    generalize (Term.field (Term.elem (Term.static "java/lang/Long$LongCache" "cache" "[Ljava/lang/Long;") (Term.index 0)) "java/lang/Long" "value" "J") = tf at heq ⊢
    generalize (Term.op1 Unary.i2l (Term.sub (Term.index 0) (Term.int (128 : Int32)))) = tu at heq eu
    cases ht : tf.eval args Z none [j] Z with
    | none => simp [Cond.value, ht, eu] at heq
    | some x => cases x <;> simp [Cond.value, ht, eu] at heq; subst heq; rfl
  rw [fld_at e1] at ef
  rw [evE] at e1
  subst e6
  exact ⟨b, e1, ⟨cell, k, e3, e2, e4, e5, e7⟩, Fld.start ef⟩
theorem d7_0 : decode jdk_18_method_1_code 0 = .ok (.aload_n 0, 1) := by decide +kernel
theorem d7_1 : decode jdk_18_method_1_code 1 = .ok (.invokespecial 1, 3) := by decide +kernel
theorem d7_4 : decode jdk_18_method_1_code 4 = .ok (.return_, 1) := by decide +kernel
theorem pn_7 : plainName "java/lang/Number" = true := by first | (simp [plainName, overriddenIn]; done) | decide +kernel
theorem ef_7 (m : MethodId) (r0 : Addr) : entryFrame m #[(.ref r0)] 1 = mkF m 0 #[.val (.ref r0)] [] := by first | (simp [entryFrame, mkF, argsToLocals, Value.category]; done) | rfl
def Q7 (Z : State) (r0 : Addr)  (h0 : Heap) (n0 : Nat) (v : Option Value) (h : Heap) (L : List Loc) : Prop := v = none ∧ Fr n0 L ∧ h = h0
set_option maxRecDepth 65536 in
set_option maxHeartbeats 40000000 in
theorem rm7 (l : Launch) (Z : State) (a0 : Array Value) (hw : ∀ d ∈ tables_1, d.before a0 Z = true) (ws : List Jvm.Cond) (r0 : Addr)  (h0 : Heap) (n0 : Nat) (Z0 : n0 ≤ h0.size)  :
    MetFree l (⟨"java/lang/Number", "<init>", "()V"⟩ : MethodName) (head1 (Jvm.Cond.code (⟨"java/lang/Number", "<init>", "()V"⟩ : MethodName) jdk_18_method_1_code 1 none :: ws) ({ frames := 1, cells := 0, slots := 0, locals := 12 } : Room)) (fun a U => a = #[(.ref r0)] ∧ Z.Warmed39 U.vm ∧ U.heap = h0) (fun _ _ _ _ _ => True) (fun _ U o U' => ∃ v L, o = .returned v ∧ Q7 Z r0 h0 n0 v U'.heap L ∧ FrameEnd U o U' L ({ frames := 1, cells := 0, slots := 0, locals := 12 } : Room).cells ({ frames := 1, cells := 0, slots := 0, locals := 12 } : Room).slots) := by
  refine MetFree.of_bodySF (plainFor_of_name pn_7) hisR ?_
  intro p e s m args below meth c s₁ Bd hml0 hP hK
  obtain ⟨rfl, hZ, hh⟩ := hP
  have hx := Bd.exec
  have hby := Bd.bytes
  have hml : c.maxLocals = 1 := hml0
  have hown : s.vm.findClass "java/lang/Number" = some m.cls := findClass_of_methodNamed Bd.named
  have hnm := (name_of_methodNamed Bd.named Bd.method).1
  have X0 : Stand p l e ({ frames := 1, cells := 0, slots := 0, locals := 12 } : Room) s m #[(.ref r0)] below meth c s₁ [] 0 0 := Stand.of_body Bd
  have e0 : s₁.heap = h0 := by rw [← hh, Bd.state]; rfl
  have N0 := Fr.nil n0
  refine own_go (A' := (s₁.setTop (mkF m 0 #[.val (.ref r0)] []))) (fun t k => castTop (ef_7 m r0) k) ?_
  obtain ⟨T1, X1, e1, st1⟩ := initO X0 hx hZ hown (hw _ (List.mem_of_getElem? (i := 45) rfl)) (hw _ (List.mem_of_getElem? (i := 7) rfl)) (hw _ (List.mem_of_getElem? (i := 8) rfl)) e0 (g := (mkF m 1 #[.val (.ref r0)] [(.ref r0)])) rfl (by rw [hml]; rfl) rfl (hb hby d7_1) (by decide) (W := 0) (by show 2 * 0 + _ ≤ _; exact Nat.le_of_eq rfl) (by decide)
  refine own_go (A' := (T1.setTop (mkF m 4 #[.val (.ref r0)] []))) (fun t k => ?_) ?_
  · show Steps p.tables e below (s₁.setTop (mkF m 0 #[.val (.ref r0)] [])) _
    refine XS.aloadN X0.here hx rfl (hb hby d7_0) rfl rfl ?_
    show Steps p.tables e below (s₁.setTop (mkF m 1 #[.val (.ref r0)] [(.ref r0)])) _
    refine st1 _ ?_
    exact k
  obtain ⟨fs, hr, hrun, hended, hW, hsame⟩ := X1.leave (v := none) (fun _ => rfl)
  refine ⟨_, _, ?_, hrun, hended, _, _, rfl, ?_, ⟨_, rfl⟩, hW, hsame.mono (by decide) (by decide)⟩
  · show Steps p.tables e below (T1.setTop (mkF m 4 #[.val (.ref r0)] [])) _
    exact X1.returnOut hx Bd.returns (hb hby d7_4) hr
  · show Q7 Z r0 h0 n0 _ T1.heap _
    exact ⟨rfl, N0, e1⟩
theorem pd_0 : parseMethodDescriptor "()V" = some ⟨[], none⟩ := by decide +kernel
theorem d6_0 : decode jdk_35_method_26_code 0 = .ok (.aload_n 0, 1) := by decide +kernel
theorem d6_1 : decode jdk_35_method_26_code 1 = .ok (.invokespecial 270, 3) := by decide +kernel
theorem d6_4 : decode jdk_35_method_26_code 4 = .ok (.aload_n 0, 1) := by decide +kernel
theorem d6_5 : decode jdk_35_method_26_code 5 = .ok (.lload_n 1, 1) := by decide +kernel
theorem d6_6 : decode jdk_35_method_26_code 6 = .ok (.putfield 273, 3) := by decide +kernel
theorem d6_9 : decode jdk_35_method_26_code 9 = .ok (.return_, 1) := by decide +kernel
theorem pn_6 : plainName "java/lang/Long" = true := by first | (simp [plainName, overriddenIn]; done) | decide +kernel
theorem ef_6 (m : MethodId) (r0 : Addr) (q1 : Int64) : entryFrame m #[(.ref r0), (.long q1)] 3 = mkF m 0 #[.val (.ref r0), .val (.long q1), .second] [] := by first | (simp [entryFrame, mkF, argsToLocals, Value.category]; done) | rfl
def Q6 (Z : State) (r0 : Addr) (q1 : Int64)  (h0 : Heap) (n0 : Nat) (v : Option Value) (h : Heap) (L : List Loc) : Prop := v = none ∧ Fr n0 L ∧ Keep h0 h [r0] ∧ Exa Z h r0 "java/lang/Long" ∧ Fld Z h r0 "java/lang/Long" "value" "J" (.long q1)
set_option maxRecDepth 65536 in
set_option maxHeartbeats 40000000 in
theorem rm6 (l : Launch) (Z : State) (a0 : Array Value) (hw : ∀ d ∈ tables_1, d.before a0 Z = true) (ws : List Jvm.Cond) (r0 : Addr) (q1 : Int64)  (h0 : Heap) (n0 : Nat) (Z0 : n0 ≤ h0.size) (E0_r0 : Exa Z h0 r0 "java/lang/Long") (F0_value : Fld Z h0 r0 "java/lang/Long" "value" "J" (.long (0 : Int64))) (g_r0 : n0 ≤ r0) :
    MetFree l (⟨"java/lang/Long", "<init>", "(J)V"⟩ : MethodName) (head1 (Jvm.Cond.code (⟨"java/lang/Long", "<init>", "(J)V"⟩ : MethodName) jdk_35_method_26_code 3 none :: ws) ({ frames := 2, cells := 0, slots := 0, locals := 24 } : Room)) (fun a U => a = #[(.ref r0), (.long q1)] ∧ Z.Warmed39 U.vm ∧ U.heap = h0) (fun _ _ _ _ _ => True) (fun _ U o U' => ∃ v L, o = .returned v ∧ Q6 Z r0 q1 h0 n0 v U'.heap L ∧ FrameEnd U o U' L ({ frames := 2, cells := 0, slots := 0, locals := 24 } : Room).cells ({ frames := 2, cells := 0, slots := 0, locals := 24 } : Room).slots) := by
  refine MetFree.of_bodySF (plainFor_of_name pn_6) hisR ?_
  intro p e s m args below meth c s₁ Bd hml0 hP hK
  obtain ⟨rfl, hZ, hh⟩ := hP
  have hx := Bd.exec
  have hby := Bd.bytes
  have hml : c.maxLocals = 3 := hml0
  have hown : s.vm.findClass "java/lang/Long" = some m.cls := findClass_of_methodNamed Bd.named
  have hnm := (name_of_methodNamed Bd.named Bd.method).1
  have X0 : Stand p l e ({ frames := 2, cells := 0, slots := 0, locals := 24 } : Room) s m #[(.ref r0), (.long q1)] below meth c s₁ [] 0 0 := Stand.of_body Bd
  have e0 : s₁.heap = h0 := by rw [← hh, Bd.state]; rfl
  have N0 := Fr.nil n0
  refine own_go (A' := (s₁.setTop (mkF m 0 #[.val (.ref r0), .val (.long q1), .second] []))) (fun t k => castTop (ef_6 m r0 q1) k) ?_
  obtain ⟨_, _, ⟨T2, L2, k2, n2⟩, -, X2, ⟨Lc2, hQ2, l2, y2, z2⟩, st2⟩ := X0.specialBack hx (y := (⟨"java/lang/Number", "<init>", "()V"⟩ : MethodName)) rfl hown (mvT hZ (hw _ (List.mem_of_getElem? (i := 39) rfl))) (mvT hZ (hw _ (List.mem_of_getElem? (i := 40) rfl))) (mvT hZ (hw _ (List.mem_of_getElem? (i := 44) rfl))) (by decide) (backOf (W := 0) (rm7 l Z a0 hw [] r0  h0 n0 Z0 ) hZ (hw _ (List.mem_of_getElem? (i := 44) rfl)) (hw _ (List.mem_of_getElem? (i := 43) rfl)) (by decide) (by decide)) (g := (mkF m 1 #[.val (.ref r0), .val (.long q1), .second] [(.ref r0)])) rfl (by rw [hml]; rfl) (Steps.refl _) (a := r0) (argsL := []) (rest := []) (lenOf pd_0 rfl) rfl (by show 2 * 0 + _ ≤ _; exact Nat.le_of_eq rfl) (hb hby d6_1) (fun _ _ => ⟨rfl, e0, (by decide : 0 + 0 ≤ _), (by decide : 0 + 0 ≤ _)⟩)
  dsimp only [Pt.U, Pt.locs, Pt.cells, Pt.slots] at X2 l2 y2 z2 st2 hQ2
  subst l2 y2 z2
  obtain ⟨rfl, N2q, e2⟩ := hQ2
  have N2 := Fr.app N0 N2q
  obtain ⟨T3, h3, X3, e3, W3, st3⟩ := putF X2 hx hZ hown (host := "") (Or.inl (hw _ (List.mem_of_getElem? (i := 31) rfl))) Via.refl e2 F0_value E0_r0 (Or.inr ⟨(hw _ (List.mem_of_getElem? (i := 32) rfl)), rfl, hnm⟩) (hw _ (List.mem_of_getElem? (i := 34) rfl)) (ty := .long) (by decide) rfl rfl (g := (mkF m 6 #[.val (.ref r0), .val (.long q1), .second] [(.long q1), (.ref r0)])) rfl rfl (hb hby d6_6)
  have K3 : Keep h0 h3 [r0] := (Keep.refl h0 [r0]).wr W3 (Or.inl (List.mem_of_getElem? (i := 0) rfl))
  have N3 := Fr.snoc X3 N2 g_r0
  refine own_go (A' := (T3.setTop (mkF m 9 #[.val (.ref r0), .val (.long q1), .second] []))) (fun t k => ?_) ?_
  · show Steps p.tables e below (s₁.setTop (mkF m 0 #[.val (.ref r0), .val (.long q1), .second] [])) _
    refine XS.aloadN X0.here hx rfl (hb hby d6_0) rfl rfl ?_
    show Steps p.tables e below (s₁.setTop (mkF m 1 #[.val (.ref r0), .val (.long q1), .second] [(.ref r0)])) _
    refine st2.trans ?_
    show Steps p.tables e below (T2.setTop (mkF m 4 #[.val (.ref r0), .val (.long q1), .second] [])) _
    refine XS.aloadN X2.here hx rfl (hb hby d6_4) rfl rfl ?_
    show Steps p.tables e below (T2.setTop (mkF m 5 #[.val (.ref r0), .val (.long q1), .second] [(.ref r0)])) _
    refine XS.lloadN X2.here hx rfl (hb hby d6_5) rfl ?_
    show Steps p.tables e below (T2.setTop (mkF m 6 #[.val (.ref r0), .val (.long q1), .second] [(.long q1), (.ref r0)])) _
    refine st3 _ ?_
    exact k
  obtain ⟨fs, hr, hrun, hended, hW, hsame⟩ := X3.leave (v := none) (fun _ => rfl)
  refine ⟨_, _, ?_, hrun, hended, _, _, rfl, ?_, ⟨_, rfl⟩, hW, hsame.mono (by decide) (by decide)⟩
  · show Steps p.tables e below (T3.setTop (mkF m 9 #[.val (.ref r0), .val (.long q1), .second] [])) _
    exact X3.returnOut hx Bd.returns (hb hby d6_9) hr
  · show Q6 Z r0 q1 h0 n0 _ T3.heap _
    rw [e3]
    exact ⟨rfl, N3, K3, (E0_r0.wr W3), (F0_value.same W3)⟩
theorem pd_1 : parseMethodDescriptor "(J)V" = some ⟨[.long], none⟩ := by decide +kernel
theorem d4_0 : decode jdk_35_method_24_code 0 = .ok (.sipush 128, 3) := by decide +kernel
theorem d4_3 : decode jdk_35_method_24_code 3 = .ok (.istore_n 2, 1) := by decide +kernel
theorem d4_4 : decode jdk_35_method_24_code 4 = .ok (.lload_n 0, 1) := by decide +kernel
theorem d4_5 : decode jdk_35_method_24_code 5 = .ok (.ldc2_w 230, 3) := by decide +kernel
theorem d4_8 : decode jdk_35_method_24_code 8 = .ok (.lcmp, 1) := by decide +kernel
theorem d4_9 : decode jdk_35_method_24_code 9 = .ok (.ifCond .lt 22, 3) := by decide +kernel
theorem d4_12 : decode jdk_35_method_24_code 12 = .ok (.lload_n 0, 1) := by decide +kernel
theorem d4_13 : decode jdk_35_method_24_code 13 = .ok (.ldc2_w 232, 3) := by decide +kernel
theorem d4_16 : decode jdk_35_method_24_code 16 = .ok (.lcmp, 1) := by decide +kernel
theorem d4_17 : decode jdk_35_method_24_code 17 = .ok (.ifCond .gt 14, 3) := by decide +kernel
theorem d4_20 : decode jdk_35_method_24_code 20 = .ok (.getstatic 234, 3) := by decide +kernel
theorem d4_23 : decode jdk_35_method_24_code 23 = .ok (.lload_n 0, 1) := by decide +kernel
theorem d4_24 : decode jdk_35_method_24_code 24 = .ok (.l2i, 1) := by decide +kernel
theorem d4_25 : decode jdk_35_method_24_code 25 = .ok (.sipush 128, 3) := by decide +kernel
theorem d4_28 : decode jdk_35_method_24_code 28 = .ok (.iadd, 1) := by decide +kernel
theorem d4_29 : decode jdk_35_method_24_code 29 = .ok (.aaload, 1) := by decide +kernel
theorem d4_30 : decode jdk_35_method_24_code 30 = .ok (.areturn, 1) := by decide +kernel
theorem d4_31 : decode jdk_35_method_24_code 31 = .ok (.new 1, 3) := by decide +kernel
theorem d4_34 : decode jdk_35_method_24_code 34 = .ok (.dup, 1) := by decide +kernel
theorem d4_35 : decode jdk_35_method_24_code 35 = .ok (.lload_n 0, 1) := by decide +kernel
theorem d4_36 : decode jdk_35_method_24_code 36 = .ok (.invokespecial 240, 3) := by decide +kernel
theorem d4_39 : decode jdk_35_method_24_code 39 = .ok (.areturn, 1) := by decide +kernel
theorem pn_4 : plainName "java/lang/Long" = true := by first | (simp [plainName, overriddenIn]; done) | decide +kernel
theorem ef_4 (m : MethodId) (q0 : Int64) : entryFrame m #[(.long q0)] 3 = mkF m 0 #[.val (.long q0), .second, .unset] [] := by first | (simp [entryFrame, mkF, argsToLocals, Value.category]; done) | rfl
def Q4 (Z : State) (q0 : Int64) (wC : Addr) (clC : Cell) (h0 : Heap) (n0 : Nat) (v : Option Value) (h : Heap) (L : List Loc) : Prop := ∃ b : Addr, v = some (.ref b) ∧ Fr n0 L ∧ Keep h0 h [] ∧ Exa Z h b "java/lang/Long" ∧ Fld Z h b "java/lang/Long" "value" "J" (.long q0)
set_option maxRecDepth 65536 in
set_option maxHeartbeats 40000000 in
theorem rm4 (l : Launch) (Z : State) (a0 : Array Value) (hw : ∀ d ∈ tables_1, d.before a0 Z = true) (ws : List Jvm.Cond) (q0 : Int64) (wC : Addr) (clC : Cell) (h0 : Heap) (n0 : Nat) (Z0 : n0 ≤ h0.size) (S_cache : Sta Z h0 "java/lang/Long$LongCache" "cache" "[Ljava/lang/Long;" (.ref wC)) (Ar_C : Arr Z h0 wC clC (.object "java/lang/Long")) (L_C : clC.slots.size = 256) (P_C : ∀ j : Nat, j < 256 → ∃ b : Addr, clC.slots[j]? = some (.ref b) ∧ Exa Z h0 b "java/lang/Long" ∧ Fld Z h0 b "java/lang/Long" "value" "J" (.long ((j.toInt32 - 128).toInt64))) :
    MetFree l (⟨"java/lang/Long", "valueOf", "(J)Ljava/lang/Long;"⟩ : MethodName) (head1 (Jvm.Cond.code (⟨"java/lang/Long", "valueOf", "(J)Ljava/lang/Long;"⟩ : MethodName) jdk_35_method_24_code 3 (some (.object "java/lang/Long")) :: ws) ({ frames := 3, cells := 1, slots := 1, locals := 39 } : Room)) (fun a U => a = #[(.long q0)] ∧ Z.Warmed39 U.vm ∧ U.heap = h0) (fun _ _ _ _ _ => True) (fun _ U o U' => ∃ v L, o = .returned v ∧ Q4 Z q0 wC clC h0 n0 v U'.heap L ∧ FrameEnd U o U' L ({ frames := 3, cells := 1, slots := 1, locals := 39 } : Room).cells ({ frames := 3, cells := 1, slots := 1, locals := 39 } : Room).slots) := by
  refine MetFree.of_bodySF (plainFor_of_name pn_4) hisR ?_
  intro p e s m args below meth c s₁ Bd hml0 hP hK
  obtain ⟨rfl, hZ, hh⟩ := hP
  have hx := Bd.exec
  have hby := Bd.bytes
  have hml : c.maxLocals = 3 := hml0
  have hown : s.vm.findClass "java/lang/Long" = some m.cls := findClass_of_methodNamed Bd.named
  have hnm := (name_of_methodNamed Bd.named Bd.method).1
  have X0 : Stand p l e ({ frames := 3, cells := 1, slots := 1, locals := 39 } : Room) s m #[(.long q0)] below meth c s₁ [] 0 0 := Stand.of_body Bd
  have e0 : s₁.heap = h0 := by rw [← hh, Bd.state]; rfl
  have N0 := Fr.nil n0
  refine own_go (A' := (s₁.setTop (mkF m 0 #[.val (.long q0), .second, .unset] []))) (fun t k => castTop (ef_4 m q0) k) ?_
  refine own_go (A' := (s₁.setTop (mkF m 9 #[.val (.long q0), .second, .val (.int (128 : Int32))] [(.int (lcmpW q0 (-128 : Int64)))]))) (fun t k => ?_) ?_
  · show Steps p.tables e below (s₁.setTop (mkF m 0 #[.val (.long q0), .second, .unset] [])) _
    refine XS.sipush X0.here hx rfl (hb hby d4_0) ?_
    show Steps p.tables e below (s₁.setTop (mkF m 3 #[.val (.long q0), .second, .unset] [(.int (128 : Int32))])) _
    refine XS.istoreN X0.here hx rfl (hb hby d4_3) rfl (l' := #[.val (.long q0), .second, .val (.int (128 : Int32))]) rfl ?_
    show Steps p.tables e below (s₁.setTop (mkF m 4 #[.val (.long q0), .second, .val (.int (128 : Int32))] [])) _
    refine XS.lloadN X0.here hx rfl (hb hby d4_4) rfl ?_
    show Steps p.tables e below (s₁.setTop (mkF m 5 #[.val (.long q0), .second, .val (.int (128 : Int32))] [(.long q0)])) _
    refine X0.ldc2Long hx hown (mvT hZ (hw _ (List.mem_of_getElem? (i := 22) rfl))) (g := (mkF m 5 #[.val (.long q0), .second, .val (.int (128 : Int32))] [(.long q0)])) rfl (hb hby d4_5) _ ?_
    show Steps p.tables e below (s₁.setTop (mkF m 8 #[.val (.long q0), .second, .val (.int (128 : Int32))] [(.long (-128 : Int64)), (.long q0)])) _
    refine XS.lcmp X0.here hx rfl (hb hby d4_8) rfl ?_
    exact k
  by_cases hc4 : (lcmpW q0 (-128 : Int64)) < (0 : Int32)
  · -- hc4: yes
    refine own_go (A' := (s₁.setTop (mkF m 31 #[.val (.long q0), .second, .val (.int (128 : Int32))] []))) (fun t k => XS.ifYes X0.here hx rfl (pc0 := 9) (pc' := 31) rfl (hb hby d4_9) rfl ((if0 _ _).trans (tlt hc4).1) (by decide) (by decide) k) ?_
    obtain ⟨T5, h5, X5, e5, E5, A5, D5, -, st5⟩ := newO X0 hx hZ hown (hw _ (List.mem_of_getElem? (i := 33) rfl)) (hw _ (List.mem_of_getElem? (i := 34) rfl)) (hw _ (List.mem_of_getElem? (i := 20) rfl)) e0 (g := (mkF m 31 #[.val (.long q0), .second, .val (.int (128 : Int32))] [])) rfl (hb hby d4_31) (by decide) (by decide)
    obtain ⟨b5, g5⟩ : ∃ z, z = h0.size := ⟨_, rfl⟩
    have sz_b5 : h0.size ≤ b5 := Nat.le_of_eq g5.symm
    rw [← g5] at A5 D5 st5
    have K5 : Keep h0 h5 [] := (Keep.refl h0 []).ext E5
    have B5 : Ext h0 h5 := own_keep_ext K5
    have F5_value : Fld Z h5 b5 "java/lang/Long" "value" "J" (.long (0 : Int64)) := D5 (Or.inr (hw _ (List.mem_of_getElem? (i := 32) rfl))) (ty := .long) (by decide)
    obtain ⟨_, _, ⟨T6, L6, k6, n6⟩, -, X6, ⟨Lc6, hQ6, l6, y6, z6⟩, st6⟩ := X5.specialBack hx (y := (⟨"java/lang/Long", "<init>", "(J)V"⟩ : MethodName)) rfl hown (mvT hZ (hw _ (List.mem_of_getElem? (i := 35) rfl))) (mvT hZ (hw _ (List.mem_of_getElem? (i := 36) rfl))) (mvT hZ (hw _ (List.mem_of_getElem? (i := 38) rfl))) (by decide) (backOf (W := 1) (rm6 l Z a0 hw [] b5 q0  h5 n0 (Nat.le_trans Z0 K5.1) A5 F5_value (Nat.le_trans Z0 sz_b5)) hZ (hw _ (List.mem_of_getElem? (i := 38) rfl)) (hw _ (List.mem_of_getElem? (i := 20) rfl)) (by decide) (by decide)) (g := (mkF m 36 #[.val (.long q0), .second, .val (.int (128 : Int32))] [(.long q0), (.ref b5), (.ref b5)])) rfl (by rw [hml]; rfl) (Steps.refl _) (a := b5) (argsL := [(.long q0)]) (rest := [(.ref b5)]) (lenOf pd_1 rfl) rfl (by show 2 * 0 + _ ≤ _; exact Nat.le_of_eq rfl) (hb hby d4_36) (fun _ _ => ⟨rfl, e5, (by decide : 1 + 0 ≤ _), (by decide : 1 + 0 ≤ _)⟩)
    dsimp only [Pt.U, Pt.locs, Pt.cells, Pt.slots] at X6 l6 y6 z6 st6 hQ6
    subst l6 y6 z6
    obtain ⟨rfl, N6q, K6q, E6q, F6q⟩ := hQ6
    have N6 := Fr.app N0 N6q
    have K6 : Keep h0 T6.heap [] := K5.trans K6q (allS (Or.inr sz_b5) all0)
    have B6 : Ext h0 T6.heap := own_keep_ext K6
    refine own_go (A' := (T6.setTop (mkF m 39 #[.val (.long q0), .second, .val (.int (128 : Int32))] [(.ref b5)]))) (fun t k => ?_) ?_
    · show Steps p.tables e below (s₁.setTop (mkF m 31 #[.val (.long q0), .second, .val (.int (128 : Int32))] [])) _
      refine st5 _ ?_
      show Steps p.tables e below (T5.setTop (mkF m 34 #[.val (.long q0), .second, .val (.int (128 : Int32))] [(.ref b5)])) _
      refine XS.dup X5.here hx rfl (hb hby d4_34) rfl rfl ?_
      show Steps p.tables e below (T5.setTop (mkF m 35 #[.val (.long q0), .second, .val (.int (128 : Int32))] [(.ref b5), (.ref b5)])) _
      refine XS.lloadN X5.here hx rfl (hb hby d4_35) rfl ?_
      show Steps p.tables e below (T5.setTop (mkF m 36 #[.val (.long q0), .second, .val (.int (128 : Int32))] [(.long q0), (.ref b5), (.ref b5)])) _
      refine st6.trans ?_
      exact k
    obtain ⟨fs, hr, hrun, hended, hW, hsame⟩ := X6.leave (v := some (.ref b5)) (fun h => by rw [Bd.returns] at h; cases h)
    refine ⟨_, _, ?_, hrun, hended, _, _, rfl, ?_, ⟨_, rfl⟩, hW, hsame.mono (by decide) (by decide)⟩
    · show Steps p.tables e below (T6.setTop (mkF m 39 #[.val (.long q0), .second, .val (.int (128 : Int32))] [(.ref b5)])) _
      exact own_retV X6 hx Bd.returns rfl rfl (hb hby d4_39) hr
    · show Q4 Z q0 wC clC h0 n0 _ T6.heap _
      exact ⟨_, rfl, N6, K6, E6q, F6q⟩
  · -- hc4: no
    refine own_go (A' := (s₁.setTop (mkF m 12 #[.val (.long q0), .second, .val (.int (128 : Int32))] []))) (fun t k => XS.ifNo X0.here hx rfl (hb hby d4_9) rfl ((if0 _ _).trans (flt hc4).1) k) ?_
    refine own_go (A' := (s₁.setTop (mkF m 17 #[.val (.long q0), .second, .val (.int (128 : Int32))] [(.int (lcmpW q0 (127 : Int64)))]))) (fun t k => ?_) ?_
    · show Steps p.tables e below (s₁.setTop (mkF m 12 #[.val (.long q0), .second, .val (.int (128 : Int32))] [])) _
      refine XS.lloadN X0.here hx rfl (hb hby d4_12) rfl ?_
      show Steps p.tables e below (s₁.setTop (mkF m 13 #[.val (.long q0), .second, .val (.int (128 : Int32))] [(.long q0)])) _
      refine X0.ldc2Long hx hown (mvT hZ (hw _ (List.mem_of_getElem? (i := 23) rfl))) (g := (mkF m 13 #[.val (.long q0), .second, .val (.int (128 : Int32))] [(.long q0)])) rfl (hb hby d4_13) _ ?_
      show Steps p.tables e below (s₁.setTop (mkF m 16 #[.val (.long q0), .second, .val (.int (128 : Int32))] [(.long (127 : Int64)), (.long q0)])) _
      refine XS.lcmp X0.here hx rfl (hb hby d4_16) rfl ?_
      exact k
    by_cases hc7 : (0 : Int32) < (lcmpW q0 (127 : Int64))
    · -- hc7: yes
      refine own_go (A' := (s₁.setTop (mkF m 31 #[.val (.long q0), .second, .val (.int (128 : Int32))] []))) (fun t k => XS.ifYes X0.here hx rfl (pc0 := 17) (pc' := 31) rfl (hb hby d4_17) rfl ((if0 _ _).trans (tlt hc7).2.2.1) (by decide) (by decide) k) ?_
      obtain ⟨T8, h8, X8, e8, E8, A8, D8, -, st8⟩ := newO X0 hx hZ hown (hw _ (List.mem_of_getElem? (i := 33) rfl)) (hw _ (List.mem_of_getElem? (i := 34) rfl)) (hw _ (List.mem_of_getElem? (i := 20) rfl)) e0 (g := (mkF m 31 #[.val (.long q0), .second, .val (.int (128 : Int32))] [])) rfl (hb hby d4_31) (by decide) (by decide)
      obtain ⟨b8, g8⟩ : ∃ z, z = h0.size := ⟨_, rfl⟩
      have sz_b8 : h0.size ≤ b8 := Nat.le_of_eq g8.symm
      rw [← g8] at A8 D8 st8
      have K8 : Keep h0 h8 [] := (Keep.refl h0 []).ext E8
      have B8 : Ext h0 h8 := own_keep_ext K8
      have F8_value : Fld Z h8 b8 "java/lang/Long" "value" "J" (.long (0 : Int64)) := D8 (Or.inr (hw _ (List.mem_of_getElem? (i := 32) rfl))) (ty := .long) (by decide)
      obtain ⟨_, _, ⟨T9, L9, k9, n9⟩, -, X9, ⟨Lc9, hQ9, l9, y9, z9⟩, st9⟩ := X8.specialBack hx (y := (⟨"java/lang/Long", "<init>", "(J)V"⟩ : MethodName)) rfl hown (mvT hZ (hw _ (List.mem_of_getElem? (i := 35) rfl))) (mvT hZ (hw _ (List.mem_of_getElem? (i := 36) rfl))) (mvT hZ (hw _ (List.mem_of_getElem? (i := 38) rfl))) (by decide) (backOf (W := 1) (rm6 l Z a0 hw [] b8 q0  h8 n0 (Nat.le_trans Z0 K8.1) A8 F8_value (Nat.le_trans Z0 sz_b8)) hZ (hw _ (List.mem_of_getElem? (i := 38) rfl)) (hw _ (List.mem_of_getElem? (i := 20) rfl)) (by decide) (by decide)) (g := (mkF m 36 #[.val (.long q0), .second, .val (.int (128 : Int32))] [(.long q0), (.ref b8), (.ref b8)])) rfl (by rw [hml]; rfl) (Steps.refl _) (a := b8) (argsL := [(.long q0)]) (rest := [(.ref b8)]) (lenOf pd_1 rfl) rfl (by show 2 * 0 + _ ≤ _; exact Nat.le_of_eq rfl) (hb hby d4_36) (fun _ _ => ⟨rfl, e8, (by decide : 1 + 0 ≤ _), (by decide : 1 + 0 ≤ _)⟩)
      dsimp only [Pt.U, Pt.locs, Pt.cells, Pt.slots] at X9 l9 y9 z9 st9 hQ9
      subst l9 y9 z9
      obtain ⟨rfl, N9q, K9q, E9q, F9q⟩ := hQ9
      have N9 := Fr.app N0 N9q
      have K9 : Keep h0 T9.heap [] := K8.trans K9q (allS (Or.inr sz_b8) all0)
      have B9 : Ext h0 T9.heap := own_keep_ext K9
      refine own_go (A' := (T9.setTop (mkF m 39 #[.val (.long q0), .second, .val (.int (128 : Int32))] [(.ref b8)]))) (fun t k => ?_) ?_
      · show Steps p.tables e below (s₁.setTop (mkF m 31 #[.val (.long q0), .second, .val (.int (128 : Int32))] [])) _
        refine st8 _ ?_
        show Steps p.tables e below (T8.setTop (mkF m 34 #[.val (.long q0), .second, .val (.int (128 : Int32))] [(.ref b8)])) _
        refine XS.dup X8.here hx rfl (hb hby d4_34) rfl rfl ?_
        show Steps p.tables e below (T8.setTop (mkF m 35 #[.val (.long q0), .second, .val (.int (128 : Int32))] [(.ref b8), (.ref b8)])) _
        refine XS.lloadN X8.here hx rfl (hb hby d4_35) rfl ?_
        show Steps p.tables e below (T8.setTop (mkF m 36 #[.val (.long q0), .second, .val (.int (128 : Int32))] [(.long q0), (.ref b8), (.ref b8)])) _
        refine st9.trans ?_
        exact k
      obtain ⟨fs, hr, hrun, hended, hW, hsame⟩ := X9.leave (v := some (.ref b8)) (fun h => by rw [Bd.returns] at h; cases h)
      refine ⟨_, _, ?_, hrun, hended, _, _, rfl, ?_, ⟨_, rfl⟩, hW, hsame.mono (by decide) (by decide)⟩
      · show Steps p.tables e below (T9.setTop (mkF m 39 #[.val (.long q0), .second, .val (.int (128 : Int32))] [(.ref b8)])) _
        exact own_retV X9 hx Bd.returns rfl rfl (hb hby d4_39) hr
      · show Q4 Z q0 wC clC h0 n0 _ T9.heap _
        exact ⟨_, rfl, N9, K9, E9q, F9q⟩
    · -- hc7: no
      refine own_go (A' := (s₁.setTop (mkF m 20 #[.val (.long q0), .second, .val (.int (128 : Int32))] []))) (fun t k => XS.ifNo X0.here hx rfl (hb hby d4_17) rfl ((if0 _ _).trans (flt hc7).2.2.1) k) ?_
      obtain ⟨T10, X10, e10, st10⟩ := getS2 X0 hx hZ hown (host := "") (Or.inl (hw _ (List.mem_of_getElem? (i := 24) rfl))) Via.refl e0 S_cache (g := (mkF m 20 #[.val (.long q0), .second, .val (.int (128 : Int32))] [])) rfl (hb hby d4_20)
      have hlo : ¬ q0 < (-128 : Int64) := fun q => hc4 ((lw_lt q0 (-128 : Int64)).mpr q)
      have hhi : ¬ q0 > (127 : Int64) := fun q => hc7 ((lw_gt q0 (127 : Int64)).mpr q)
      obtain ⟨bC, hbC, EbC, FbC⟩ := P_C _ (Jvm.Free.LongBox.place_okL q0 hlo hhi).2
      rw [Jvm.Free.LongBox.place_valL q0 hlo hhi] at FbC
      have hinC : ¬ (((q0.toInt32) + (128 : Int32)) < 0 ∨ clC.slots.size ≤ (((q0.toInt32) + (128 : Int32))).toNatClampNeg) := by rw [L_C]; exact (Jvm.Free.LongBox.place_okL q0 hlo hhi).1
      refine own_go (A' := (T10.setTop (mkF m 30 #[.val (.long q0), .second, .val (.int (128 : Int32))] [(.ref bC)]))) (fun t k => ?_) ?_
      · show Steps p.tables e below (s₁.setTop (mkF m 20 #[.val (.long q0), .second, .val (.int (128 : Int32))] [])) _
        refine st10 _ ?_
        show Steps p.tables e below (T10.setTop (mkF m 23 #[.val (.long q0), .second, .val (.int (128 : Int32))] [(.ref wC)])) _
        refine XS.lloadN X10.here hx rfl (hb hby d4_23) rfl ?_
        show Steps p.tables e below (T10.setTop (mkF m 24 #[.val (.long q0), .second, .val (.int (128 : Int32))] [(.long q0), (.ref wC)])) _
        refine XS.l2i X10.here hx rfl (hb hby d4_24) rfl ?_
        show Steps p.tables e below (T10.setTop (mkF m 25 #[.val (.long q0), .second, .val (.int (128 : Int32))] [(.int (q0.toInt32)), (.ref wC)])) _
        refine XS.sipush X10.here hx rfl (hb hby d4_25) ?_
        show Steps p.tables e below (T10.setTop (mkF m 28 #[.val (.long q0), .second, .val (.int (128 : Int32))] [(.int (128 : Int32)), (.int (q0.toInt32)), (.ref wC)])) _
        refine XS.iadd X10.here hx rfl (hb hby d4_28) rfl ?_
        show Steps p.tables e below (T10.setTop (mkF m 29 #[.val (.long q0), .second, .val (.int (128 : Int32))] [(.int ((q0.toInt32) + (128 : Int32))), (.ref wC)])) _
        refine X10.aaload hx (j := ((q0.toInt32) + (128 : Int32))) (v := (.ref bC)) (by rw [e10]; exact Ar_C.1) (State.isArrayOf_alike hZ.alike Ar_C.2.1) rfl Ar_C.2.2 hinC hbC (g := (mkF m 29 #[.val (.long q0), .second, .val (.int (128 : Int32))] [(.int ((q0.toInt32) + (128 : Int32))), (.ref wC)])) rfl rfl (hb hby d4_29) _ ?_
        exact k
      obtain ⟨fs, hr, hrun, hended, hW, hsame⟩ := X10.leave (v := some (.ref bC)) (fun h => by rw [Bd.returns] at h; cases h)
      refine ⟨_, _, ?_, hrun, hended, _, _, rfl, ?_, ⟨_, rfl⟩, hW, hsame.mono (by decide) (by decide)⟩
      · show Steps p.tables e below (T10.setTop (mkF m 30 #[.val (.long q0), .second, .val (.int (128 : Int32))] [(.ref bC)])) _
        exact own_retV X10 hx Bd.returns rfl rfl (hb hby d4_30) hr
      · show Q4 Z q0 wC clC h0 n0 _ T10.heap _
        rw [e10]
        exact ⟨_, rfl, N0, Keep.refl h0 [], EbC, FbC⟩
theorem d5_0 : decode jdk_35_method_31_code 0 = .ok (.aload_n 0, 1) := by decide +kernel
theorem d5_1 : decode jdk_35_method_31_code 1 = .ok (.getfield 273, 3) := by decide +kernel
theorem d5_4 : decode jdk_35_method_31_code 4 = .ok (.lreturn, 1) := by decide +kernel
theorem pn_5 : plainName "java/lang/Long" = true := by first | (simp [plainName, overriddenIn]; done) | decide +kernel
theorem ef_5 (m : MethodId) (r0 : Addr) : entryFrame m #[(.ref r0)] 1 = mkF m 0 #[.val (.ref r0)] [] := by first | (simp [entryFrame, mkF, argsToLocals, Value.category]; done) | rfl
def Q5 (Z : State) (r0 : Addr) (kv : Int64) (h0 : Heap) (n0 : Nat) (v : Option Value) (h : Heap) (L : List Loc) : Prop := v = some (.long kv) ∧ Fr n0 L ∧ h = h0
set_option maxRecDepth 65536 in
set_option maxHeartbeats 40000000 in
theorem rm5 (l : Launch) (Z : State) (a0 : Array Value) (hw : ∀ d ∈ tables_1, d.before a0 Z = true) (ws : List Jvm.Cond) (r0 : Addr) (kv : Int64) (h0 : Heap) (n0 : Nat) (Z0 : n0 ≤ h0.size) (F1 : Fld Z h0 r0 "java/lang/Long" "value" "J" (.long kv)) :
    MetFree l (⟨"java/lang/Long", "longValue", "()J"⟩ : MethodName) (head1 (Jvm.Cond.code (⟨"java/lang/Long", "longValue", "()J"⟩ : MethodName) jdk_35_method_31_code 1 (some .long) :: ws) ({ frames := 0, cells := 0, slots := 0, locals := 0 } : Room)) (fun a U => a = #[(.ref r0)] ∧ Z.Warmed39 U.vm ∧ U.heap = h0) (fun _ _ _ _ _ => True) (fun _ U o U' => ∃ v L, o = .returned v ∧ Q5 Z r0 kv h0 n0 v U'.heap L ∧ FrameEnd U o U' L ({ frames := 0, cells := 0, slots := 0, locals := 0 } : Room).cells ({ frames := 0, cells := 0, slots := 0, locals := 0 } : Room).slots) := by
  refine MetFree.of_bodySF (plainFor_of_name pn_5) hisR ?_
  intro p e s m args below meth c s₁ Bd hml0 hP hK
  obtain ⟨rfl, hZ, hh⟩ := hP
  have hx := Bd.exec
  have hby := Bd.bytes
  have hml : c.maxLocals = 1 := hml0
  have hown : s.vm.findClass "java/lang/Long" = some m.cls := findClass_of_methodNamed Bd.named
  have hnm := (name_of_methodNamed Bd.named Bd.method).1
  have X0 : Stand p l e ({ frames := 0, cells := 0, slots := 0, locals := 0 } : Room) s m #[(.ref r0)] below meth c s₁ [] 0 0 := Stand.of_body Bd
  have e0 : s₁.heap = h0 := by rw [← hh, Bd.state]; rfl
  have N0 := Fr.nil n0
  refine own_go (A' := (s₁.setTop (mkF m 0 #[.val (.ref r0)] []))) (fun t k => castTop (ef_5 m r0) k) ?_
  obtain ⟨T11, X11, e11, st11⟩ := getF X0 hx hZ hown (host := "") (Or.inl (hw _ (List.mem_of_getElem? (i := 31) rfl))) Via.refl e0 F1 (g := (mkF m 1 #[.val (.ref r0)] [(.ref r0)])) rfl rfl (hb hby d5_1)
  refine own_go (A' := (T11.setTop (mkF m 4 #[.val (.ref r0)] [(.long kv)]))) (fun t k => ?_) ?_
  · show Steps p.tables e below (s₁.setTop (mkF m 0 #[.val (.ref r0)] [])) _
    refine XS.aloadN X0.here hx rfl (hb hby d5_0) rfl rfl ?_
    show Steps p.tables e below (s₁.setTop (mkF m 1 #[.val (.ref r0)] [(.ref r0)])) _
    refine st11 _ ?_
    exact k
  obtain ⟨fs, hr, hrun, hended, hW, hsame⟩ := X11.leave (v := some (.long kv)) (fun h => by rw [Bd.returns] at h; cases h)
  refine ⟨_, _, ?_, hrun, hended, _, _, rfl, ?_, ⟨_, rfl⟩, hW, hsame.mono (by decide) (by decide)⟩
  · show Steps p.tables e below (T11.setTop (mkF m 4 #[.val (.ref r0)] [(.long kv)])) _
    exact own_retL X11 hx Bd.returns (hb hby d5_4) hr
  · show Q5 Z r0 kv h0 n0 _ T11.heap _
    exact ⟨rfl, N0, e11⟩
theorem d1_0 : decode prog_25_method_1_code 0 = .ok (.aload_n 0, 1) := by decide +kernel
theorem d1_1 : decode prog_25_method_1_code 1 = .ok (.invokespecial 1, 3) := by decide +kernel
theorem d1_4 : decode prog_25_method_1_code 4 = .ok (.aload_n 0, 1) := by decide +kernel
theorem d1_5 : decode prog_25_method_1_code 5 = .ok (.lload_n 1, 1) := by decide +kernel
theorem d1_6 : decode prog_25_method_1_code 6 = .ok (.putfield 7, 3) := by decide +kernel
theorem d1_9 : decode prog_25_method_1_code 9 = .ok (.aload_n 0, 1) := by decide +kernel
theorem d1_10 : decode prog_25_method_1_code 10 = .ok (.aload_n 3, 1) := by decide +kernel
theorem d1_11 : decode prog_25_method_1_code 11 = .ok (.putfield 13, 3) := by decide +kernel
theorem d1_14 : decode prog_25_method_1_code 14 = .ok (.return_, 1) := by decide +kernel
theorem pn_1 : plainName "com/example/lading/lading/core/Occurrence" = true := by first | (simp [plainName, overriddenIn]; done) | decide +kernel
theorem ef_1n (m : MethodId) (r0 : Addr) (q1 : Int64) : entryFrame m #[(.ref r0), (.long q1), .null] 4 = mkF m 0 #[.val (.ref r0), .val (.long q1), .second, .val .null] [] := by first | (simp [entryFrame, mkF, argsToLocals, Value.category]; done) | rfl
def Q1n (Z : State) (r0 : Addr) (q1 : Int64)  (h0 : Heap) (n0 : Nat) (v : Option Value) (h : Heap) (L : List Loc) : Prop := v = none ∧ Fr n0 L ∧ Keep h0 h [r0] ∧ Exa Z h r0 "com/example/lading/lading/core/Occurrence" ∧ Fld Z h r0 "com/example/lading/lading/core/Occurrence" "min" "J" (.long q1) ∧ Fld Z h r0 "com/example/lading/lading/core/Occurrence" "max" "Ljava/lang/Long;" .null
set_option maxRecDepth 65536 in
set_option maxHeartbeats 40000000 in
theorem rm1n (l : Launch) (Z : State) (a0 : Array Value) (hw : ∀ d ∈ tables_1, d.before a0 Z = true) (ws : List Jvm.Cond) (r0 : Addr) (q1 : Int64)  (h0 : Heap) (n0 : Nat) (Z0 : n0 ≤ h0.size) (E0_r0 : Exa Z h0 r0 "com/example/lading/lading/core/Occurrence") (F0_min : Fld Z h0 r0 "com/example/lading/lading/core/Occurrence" "min" "J" (.long (0 : Int64))) (F0_max : Fld Z h0 r0 "com/example/lading/lading/core/Occurrence" "max" "Ljava/lang/Long;" .null) (g_r0 : n0 ≤ r0) :
    MetFree l (⟨"com/example/lading/lading/core/Occurrence", "<init>", "(JLjava/lang/Long;)V"⟩ : MethodName) (head1 (Jvm.Cond.code (⟨"com/example/lading/lading/core/Occurrence", "<init>", "(JLjava/lang/Long;)V"⟩ : MethodName) prog_25_method_1_code 4 none :: ws) ({ frames := 1, cells := 0, slots := 0, locals := 12 } : Room)) (fun a U => a = #[(.ref r0), (.long q1), .null] ∧ Z.Warmed39 U.vm ∧ U.heap = h0) (fun _ _ _ _ _ => True) (fun _ U o U' => ∃ v L, o = .returned v ∧ Q1n Z r0 q1 h0 n0 v U'.heap L ∧ FrameEnd U o U' L ({ frames := 1, cells := 0, slots := 0, locals := 12 } : Room).cells ({ frames := 1, cells := 0, slots := 0, locals := 12 } : Room).slots) := by
  refine MetFree.of_bodySF (plainFor_of_name pn_1) hisR ?_
  intro p e s m args below meth c s₁ Bd hml0 hP hK
  obtain ⟨rfl, hZ, hh⟩ := hP
  have hx := Bd.exec
  have hby := Bd.bytes
  have hml : c.maxLocals = 4 := hml0
  have hown : s.vm.findClass "com/example/lading/lading/core/Occurrence" = some m.cls := findClass_of_methodNamed Bd.named
  have hnm := (name_of_methodNamed Bd.named Bd.method).1
  have X0 : Stand p l e ({ frames := 1, cells := 0, slots := 0, locals := 12 } : Room) s m #[(.ref r0), (.long q1), .null] below meth c s₁ [] 0 0 := Stand.of_body Bd
  have e0 : s₁.heap = h0 := by rw [← hh, Bd.state]; rfl
  have N0 := Fr.nil n0
  refine own_go (A' := (s₁.setTop (mkF m 0 #[.val (.ref r0), .val (.long q1), .second, .val .null] []))) (fun t k => castTop (ef_1n m r0 q1) k) ?_
  obtain ⟨T12, X12, e12, st12⟩ := initO X0 hx hZ hown (hw _ (List.mem_of_getElem? (i := 6) rfl)) (hw _ (List.mem_of_getElem? (i := 7) rfl)) (hw _ (List.mem_of_getElem? (i := 8) rfl)) e0 (g := (mkF m 1 #[.val (.ref r0), .val (.long q1), .second, .val .null] [(.ref r0)])) rfl (by rw [hml]; rfl) rfl (hb hby d1_1) (by decide) (W := 0) (by show 2 * 0 + _ ≤ _; exact Nat.le_of_eq rfl) (by decide)
  obtain ⟨T13, h13, X13, e13, W13, st13⟩ := putF X12 hx hZ hown (host := "") (Or.inl (hw _ (List.mem_of_getElem? (i := 9) rfl))) Via.refl e12 F0_min E0_r0 (Or.inr ⟨(hw _ (List.mem_of_getElem? (i := 10) rfl)), rfl, hnm⟩) (hw _ (List.mem_of_getElem? (i := 1) rfl)) (ty := .long) (by decide) rfl rfl (g := (mkF m 6 #[.val (.ref r0), .val (.long q1), .second, .val .null] [(.long q1), (.ref r0)])) rfl rfl (hb hby d1_6)
  have K13 : Keep h0 h13 [r0] := (Keep.refl h0 [r0]).wr W13 (Or.inl (List.mem_of_getElem? (i := 0) rfl))
  have N13 := Fr.snoc X13 N0 g_r0
  obtain ⟨T14, h14, X14, e14, W14, st14⟩ := putF X13 hx hZ hown (host := "") (Or.inl (hw _ (List.mem_of_getElem? (i := 11) rfl))) Via.refl e13 (F0_max.other W13 (Or.inr (slot_ne (Or.inr (hw _ (List.mem_of_getElem? (i := 12) rfl))) (Or.inr (hw _ (List.mem_of_getElem? (i := 10) rfl))) (by decide) (t := (.object "java/lang/Long")) (t' := .long) (by decide) (by decide)))) (E0_r0.wr W13) (Or.inr ⟨(hw _ (List.mem_of_getElem? (i := 12) rfl)), rfl, hnm⟩) (hw _ (List.mem_of_getElem? (i := 1) rfl)) (ty := (.object "java/lang/Long")) (by decide) rfl rfl (g := (mkF m 11 #[.val (.ref r0), .val (.long q1), .second, .val .null] [.null, (.ref r0)])) rfl rfl (hb hby d1_11)
  have K14 : Keep h0 h14 [r0] := K13.wr W14 (Or.inl (List.mem_of_getElem? (i := 0) rfl))
  have N14 := Fr.snoc X14 N13 g_r0
  refine own_go (A' := (T14.setTop (mkF m 14 #[.val (.ref r0), .val (.long q1), .second, .val .null] []))) (fun t k => ?_) ?_
  · show Steps p.tables e below (s₁.setTop (mkF m 0 #[.val (.ref r0), .val (.long q1), .second, .val .null] [])) _
    refine XS.aloadN X0.here hx rfl (hb hby d1_0) rfl rfl ?_
    show Steps p.tables e below (s₁.setTop (mkF m 1 #[.val (.ref r0), .val (.long q1), .second, .val .null] [(.ref r0)])) _
    refine st12 _ ?_
    show Steps p.tables e below (T12.setTop (mkF m 4 #[.val (.ref r0), .val (.long q1), .second, .val .null] [])) _
    refine XS.aloadN X12.here hx rfl (hb hby d1_4) rfl rfl ?_
    show Steps p.tables e below (T12.setTop (mkF m 5 #[.val (.ref r0), .val (.long q1), .second, .val .null] [(.ref r0)])) _
    refine XS.lloadN X12.here hx rfl (hb hby d1_5) rfl ?_
    show Steps p.tables e below (T12.setTop (mkF m 6 #[.val (.ref r0), .val (.long q1), .second, .val .null] [(.long q1), (.ref r0)])) _
    refine st13 _ ?_
    show Steps p.tables e below (T13.setTop (mkF m 9 #[.val (.ref r0), .val (.long q1), .second, .val .null] [])) _
    refine XS.aloadN X13.here hx rfl (hb hby d1_9) rfl rfl ?_
    show Steps p.tables e below (T13.setTop (mkF m 10 #[.val (.ref r0), .val (.long q1), .second, .val .null] [(.ref r0)])) _
    refine XS.aloadN X13.here hx rfl (hb hby d1_10) rfl rfl ?_
    show Steps p.tables e below (T13.setTop (mkF m 11 #[.val (.ref r0), .val (.long q1), .second, .val .null] [.null, (.ref r0)])) _
    refine st14 _ ?_
    exact k
  obtain ⟨fs, hr, hrun, hended, hW, hsame⟩ := X14.leave (v := none) (fun _ => rfl)
  refine ⟨_, _, ?_, hrun, hended, _, _, rfl, ?_, ⟨_, rfl⟩, hW, hsame.mono (by decide) (by decide)⟩
  · show Steps p.tables e below (T14.setTop (mkF m 14 #[.val (.ref r0), .val (.long q1), .second, .val .null] [])) _
    exact X14.returnOut hx Bd.returns (hb hby d1_14) hr
  · show Q1n Z r0 q1 h0 n0 _ T14.heap _
    rw [e14]
    exact ⟨rfl, N14, K14, ((E0_r0.wr W13).wr W14), ((F0_min.same W13).other W14 (Or.inr (slot_ne (Or.inr (hw _ (List.mem_of_getElem? (i := 10) rfl))) (Or.inr (hw _ (List.mem_of_getElem? (i := 12) rfl))) (by decide) (t := .long) (t' := (.object "java/lang/Long")) (by decide) (by decide)))), ((F0_max.other W13 (Or.inr (slot_ne (Or.inr (hw _ (List.mem_of_getElem? (i := 12) rfl))) (Or.inr (hw _ (List.mem_of_getElem? (i := 10) rfl))) (by decide) (t := (.object "java/lang/Long")) (t' := .long) (by decide) (by decide)))).same W14)⟩
theorem ef_1 (m : MethodId) (r0 : Addr) (q1 : Int64) (r2 : Addr) : entryFrame m #[(.ref r0), (.long q1), (.ref r2)] 4 = mkF m 0 #[.val (.ref r0), .val (.long q1), .second, .val (.ref r2)] [] := by first | (simp [entryFrame, mkF, argsToLocals, Value.category]; done) | rfl
def Q1 (Z : State) (r0 : Addr) (q1 : Int64) (r2 : Addr)  (h0 : Heap) (n0 : Nat) (v : Option Value) (h : Heap) (L : List Loc) : Prop := v = none ∧ Fr n0 L ∧ Keep h0 h [r0] ∧ Exa Z h r0 "com/example/lading/lading/core/Occurrence" ∧ Fld Z h r0 "com/example/lading/lading/core/Occurrence" "min" "J" (.long q1) ∧ Fld Z h r0 "com/example/lading/lading/core/Occurrence" "max" "Ljava/lang/Long;" (.ref r2)
set_option maxRecDepth 65536 in
set_option maxHeartbeats 40000000 in
theorem rm1 (l : Launch) (Z : State) (a0 : Array Value) (hw : ∀ d ∈ tables_1, d.before a0 Z = true) (ws : List Jvm.Cond) (r0 : Addr) (q1 : Int64) (r2 : Addr)  (h0 : Heap) (n0 : Nat) (Z0 : n0 ≤ h0.size) (E0_r0 : Exa Z h0 r0 "com/example/lading/lading/core/Occurrence") (F0_min : Fld Z h0 r0 "com/example/lading/lading/core/Occurrence" "min" "J" (.long (0 : Int64))) (F0_max : Fld Z h0 r0 "com/example/lading/lading/core/Occurrence" "max" "Ljava/lang/Long;" .null) (g_r0 : n0 ≤ r0) :
    MetFree l (⟨"com/example/lading/lading/core/Occurrence", "<init>", "(JLjava/lang/Long;)V"⟩ : MethodName) (head1 (Jvm.Cond.code (⟨"com/example/lading/lading/core/Occurrence", "<init>", "(JLjava/lang/Long;)V"⟩ : MethodName) prog_25_method_1_code 4 none :: ws) ({ frames := 1, cells := 0, slots := 0, locals := 12 } : Room)) (fun a U => a = #[(.ref r0), (.long q1), (.ref r2)] ∧ Z.Warmed39 U.vm ∧ U.heap = h0) (fun _ _ _ _ _ => True) (fun _ U o U' => ∃ v L, o = .returned v ∧ Q1 Z r0 q1 r2 h0 n0 v U'.heap L ∧ FrameEnd U o U' L ({ frames := 1, cells := 0, slots := 0, locals := 12 } : Room).cells ({ frames := 1, cells := 0, slots := 0, locals := 12 } : Room).slots) := by
  refine MetFree.of_bodySF (plainFor_of_name pn_1) hisR ?_
  intro p e s m args below meth c s₁ Bd hml0 hP hK
  obtain ⟨rfl, hZ, hh⟩ := hP
  have hx := Bd.exec
  have hby := Bd.bytes
  have hml : c.maxLocals = 4 := hml0
  have hown : s.vm.findClass "com/example/lading/lading/core/Occurrence" = some m.cls := findClass_of_methodNamed Bd.named
  have hnm := (name_of_methodNamed Bd.named Bd.method).1
  have X0 : Stand p l e ({ frames := 1, cells := 0, slots := 0, locals := 12 } : Room) s m #[(.ref r0), (.long q1), (.ref r2)] below meth c s₁ [] 0 0 := Stand.of_body Bd
  have e0 : s₁.heap = h0 := by rw [← hh, Bd.state]; rfl
  have N0 := Fr.nil n0
  refine own_go (A' := (s₁.setTop (mkF m 0 #[.val (.ref r0), .val (.long q1), .second, .val (.ref r2)] []))) (fun t k => castTop (ef_1 m r0 q1 r2) k) ?_
  obtain ⟨T15, X15, e15, st15⟩ := initO X0 hx hZ hown (hw _ (List.mem_of_getElem? (i := 6) rfl)) (hw _ (List.mem_of_getElem? (i := 7) rfl)) (hw _ (List.mem_of_getElem? (i := 8) rfl)) e0 (g := (mkF m 1 #[.val (.ref r0), .val (.long q1), .second, .val (.ref r2)] [(.ref r0)])) rfl (by rw [hml]; rfl) rfl (hb hby d1_1) (by decide) (W := 0) (by show 2 * 0 + _ ≤ _; exact Nat.le_of_eq rfl) (by decide)
  obtain ⟨T16, h16, X16, e16, W16, st16⟩ := putF X15 hx hZ hown (host := "") (Or.inl (hw _ (List.mem_of_getElem? (i := 9) rfl))) Via.refl e15 F0_min E0_r0 (Or.inr ⟨(hw _ (List.mem_of_getElem? (i := 10) rfl)), rfl, hnm⟩) (hw _ (List.mem_of_getElem? (i := 1) rfl)) (ty := .long) (by decide) rfl rfl (g := (mkF m 6 #[.val (.ref r0), .val (.long q1), .second, .val (.ref r2)] [(.long q1), (.ref r0)])) rfl rfl (hb hby d1_6)
  have K16 : Keep h0 h16 [r0] := (Keep.refl h0 [r0]).wr W16 (Or.inl (List.mem_of_getElem? (i := 0) rfl))
  have N16 := Fr.snoc X16 N0 g_r0
  obtain ⟨T17, h17, X17, e17, W17, st17⟩ := putF X16 hx hZ hown (host := "") (Or.inl (hw _ (List.mem_of_getElem? (i := 11) rfl))) Via.refl e16 (F0_max.other W16 (Or.inr (slot_ne (Or.inr (hw _ (List.mem_of_getElem? (i := 12) rfl))) (Or.inr (hw _ (List.mem_of_getElem? (i := 10) rfl))) (by decide) (t := (.object "java/lang/Long")) (t' := .long) (by decide) (by decide)))) (E0_r0.wr W16) (Or.inr ⟨(hw _ (List.mem_of_getElem? (i := 12) rfl)), rfl, hnm⟩) (hw _ (List.mem_of_getElem? (i := 1) rfl)) (ty := (.object "java/lang/Long")) (by decide) rfl rfl (g := (mkF m 11 #[.val (.ref r0), .val (.long q1), .second, .val (.ref r2)] [(.ref r2), (.ref r0)])) rfl rfl (hb hby d1_11)
  have K17 : Keep h0 h17 [r0] := K16.wr W17 (Or.inl (List.mem_of_getElem? (i := 0) rfl))
  have N17 := Fr.snoc X17 N16 g_r0
  refine own_go (A' := (T17.setTop (mkF m 14 #[.val (.ref r0), .val (.long q1), .second, .val (.ref r2)] []))) (fun t k => ?_) ?_
  · show Steps p.tables e below (s₁.setTop (mkF m 0 #[.val (.ref r0), .val (.long q1), .second, .val (.ref r2)] [])) _
    refine XS.aloadN X0.here hx rfl (hb hby d1_0) rfl rfl ?_
    show Steps p.tables e below (s₁.setTop (mkF m 1 #[.val (.ref r0), .val (.long q1), .second, .val (.ref r2)] [(.ref r0)])) _
    refine st15 _ ?_
    show Steps p.tables e below (T15.setTop (mkF m 4 #[.val (.ref r0), .val (.long q1), .second, .val (.ref r2)] [])) _
    refine XS.aloadN X15.here hx rfl (hb hby d1_4) rfl rfl ?_
    show Steps p.tables e below (T15.setTop (mkF m 5 #[.val (.ref r0), .val (.long q1), .second, .val (.ref r2)] [(.ref r0)])) _
    refine XS.lloadN X15.here hx rfl (hb hby d1_5) rfl ?_
    show Steps p.tables e below (T15.setTop (mkF m 6 #[.val (.ref r0), .val (.long q1), .second, .val (.ref r2)] [(.long q1), (.ref r0)])) _
    refine st16 _ ?_
    show Steps p.tables e below (T16.setTop (mkF m 9 #[.val (.ref r0), .val (.long q1), .second, .val (.ref r2)] [])) _
    refine XS.aloadN X16.here hx rfl (hb hby d1_9) rfl rfl ?_
    show Steps p.tables e below (T16.setTop (mkF m 10 #[.val (.ref r0), .val (.long q1), .second, .val (.ref r2)] [(.ref r0)])) _
    refine XS.aloadN X16.here hx rfl (hb hby d1_10) rfl rfl ?_
    show Steps p.tables e below (T16.setTop (mkF m 11 #[.val (.ref r0), .val (.long q1), .second, .val (.ref r2)] [(.ref r2), (.ref r0)])) _
    refine st17 _ ?_
    exact k
  obtain ⟨fs, hr, hrun, hended, hW, hsame⟩ := X17.leave (v := none) (fun _ => rfl)
  refine ⟨_, _, ?_, hrun, hended, _, _, rfl, ?_, ⟨_, rfl⟩, hW, hsame.mono (by decide) (by decide)⟩
  · show Steps p.tables e below (T17.setTop (mkF m 14 #[.val (.ref r0), .val (.long q1), .second, .val (.ref r2)] [])) _
    exact X17.returnOut hx Bd.returns (hb hby d1_14) hr
  · show Q1 Z r0 q1 r2 h0 n0 _ T17.heap _
    rw [e17]
    exact ⟨rfl, N17, K17, ((E0_r0.wr W16).wr W17), ((F0_min.same W16).other W17 (Or.inr (slot_ne (Or.inr (hw _ (List.mem_of_getElem? (i := 10) rfl))) (Or.inr (hw _ (List.mem_of_getElem? (i := 12) rfl))) (by decide) (t := .long) (t' := (.object "java/lang/Long")) (by decide) (by decide)))), ((F0_max.other W16 (Or.inr (slot_ne (Or.inr (hw _ (List.mem_of_getElem? (i := 12) rfl))) (Or.inr (hw _ (List.mem_of_getElem? (i := 10) rfl))) (by decide) (t := (.object "java/lang/Long")) (t' := .long) (by decide) (by decide)))).same W17)⟩
theorem d3_0 : decode prog_25_method_4_code 0 = .ok (.aload_n 0, 1) := by decide +kernel
theorem d3_1 : decode prog_25_method_4_code 1 = .ok (.getfield 13, 3) := by decide +kernel
theorem d3_4 : decode prog_25_method_4_code 4 = .ok (.ifnull 22, 3) := by decide +kernel
theorem d3_26 : decode prog_25_method_4_code 26 = .ok (.iconst 0, 1) := by decide +kernel
theorem d3_27 : decode prog_25_method_4_code 27 = .ok (.ireturn, 1) := by decide +kernel
theorem pn_3 : plainName "com/example/lading/lading/core/Occurrence" = true := by first | (simp [plainName, overriddenIn]; done) | decide +kernel
theorem ef_3n (m : MethodId) (r0 : Addr) : entryFrame m #[(.ref r0)] 1 = mkF m 0 #[.val (.ref r0)] [] := by first | (simp [entryFrame, mkF, argsToLocals, Value.category]; done) | rfl
def Q3n (Z : State) (r0 : Addr) (km : Int64) (h0 : Heap) (n0 : Nat) (v : Option Value) (h : Heap) (L : List Loc) : Prop := v = some (.int (0 : Int32)) ∧ Fr n0 L ∧ h = h0
set_option maxRecDepth 65536 in
set_option maxHeartbeats 40000000 in
theorem rm3n (l : Launch) (Z : State) (a0 : Array Value) (hw : ∀ d ∈ tables_1, d.before a0 Z = true) (ws : List Jvm.Cond) (r0 : Addr) (km : Int64) (h0 : Heap) (n0 : Nat) (Z0 : n0 ≤ h0.size) (F_min : Fld Z h0 r0 "com/example/lading/lading/core/Occurrence" "min" "J" (.long km)) (F_max : Fld Z h0 r0 "com/example/lading/lading/core/Occurrence" "max" "Ljava/lang/Long;" .null) :
    MetFree l (⟨"com/example/lading/lading/core/Occurrence", "isFixed", "()Z"⟩ : MethodName) (head1 (Jvm.Cond.code (⟨"com/example/lading/lading/core/Occurrence", "isFixed", "()Z"⟩ : MethodName) prog_25_method_4_code 1 (some .boolean) :: ws) ({ frames := 0, cells := 0, slots := 0, locals := 0 } : Room)) (fun a U => a = #[(.ref r0)] ∧ Z.Warmed39 U.vm ∧ U.heap = h0) (fun _ _ _ _ _ => True) (fun _ U o U' => ∃ v L, o = .returned v ∧ Q3n Z r0 km h0 n0 v U'.heap L ∧ FrameEnd U o U' L ({ frames := 0, cells := 0, slots := 0, locals := 0 } : Room).cells ({ frames := 0, cells := 0, slots := 0, locals := 0 } : Room).slots) := by
  refine MetFree.of_bodySF (plainFor_of_name pn_3) hisR ?_
  intro p e s m args below meth c s₁ Bd hml0 hP hK
  obtain ⟨rfl, hZ, hh⟩ := hP
  have hx := Bd.exec
  have hby := Bd.bytes
  have hml : c.maxLocals = 1 := hml0
  have hown : s.vm.findClass "com/example/lading/lading/core/Occurrence" = some m.cls := findClass_of_methodNamed Bd.named
  have hnm := (name_of_methodNamed Bd.named Bd.method).1
  have X0 : Stand p l e ({ frames := 0, cells := 0, slots := 0, locals := 0 } : Room) s m #[(.ref r0)] below meth c s₁ [] 0 0 := Stand.of_body Bd
  have e0 : s₁.heap = h0 := by rw [← hh, Bd.state]; rfl
  have N0 := Fr.nil n0
  refine own_go (A' := (s₁.setTop (mkF m 0 #[.val (.ref r0)] []))) (fun t k => castTop (ef_3n m r0) k) ?_
  obtain ⟨T18, X18, e18, st18⟩ := getF X0 hx hZ hown (host := "") (Or.inl (hw _ (List.mem_of_getElem? (i := 11) rfl))) Via.refl e0 F_max (g := (mkF m 1 #[.val (.ref r0)] [(.ref r0)])) rfl rfl (hb hby d3_1)
  refine own_go (A' := (T18.setTop (mkF m 4 #[.val (.ref r0)] [.null]))) (fun t k => ?_) ?_
  · show Steps p.tables e below (s₁.setTop (mkF m 0 #[.val (.ref r0)] [])) _
    refine XS.aloadN X0.here hx rfl (hb hby d3_0) rfl rfl ?_
    show Steps p.tables e below (s₁.setTop (mkF m 1 #[.val (.ref r0)] [(.ref r0)])) _
    refine st18 _ ?_
    exact k
  refine own_go (A' := (T18.setTop (mkF m 26 #[.val (.ref r0)] []))) (fun t k => XS.ifnullYes X18.here hx rfl (pc0 := 4) (pc' := 26) rfl (hb hby d3_4) rfl (by decide) (by decide) k) ?_
  refine own_go (A' := (T18.setTop (mkF m 27 #[.val (.ref r0)] [(.int (0 : Int32))]))) (fun t k => ?_) ?_
  · show Steps p.tables e below (T18.setTop (mkF m 26 #[.val (.ref r0)] [])) _
    refine XS.iconst X18.here hx rfl (hb hby d3_26) ?_
    exact k
  obtain ⟨fs, hr, hrun, hended, hW, hsame⟩ := X18.leave (v := some (.int (0 : Int32))) (fun h => by rw [Bd.returns] at h; cases h)
  refine ⟨_, _, ?_, hrun, hended, _, _, rfl, ?_, ⟨_, rfl⟩, hW, hsame.mono (by decide) (by decide)⟩
  · show Steps p.tables e below (T18.setTop (mkF m 27 #[.val (.ref r0)] [(.int (0 : Int32))])) _
    exact retN X18 hx (t := .boolean) Bd.returns (by simp) (hb hby d3_27) hr
  · show Q3n Z r0 km h0 n0 _ T18.heap _
    exact ⟨rfl, N0, e18⟩
theorem pd_2 : parseMethodDescriptor "()J" = some ⟨[], some .long⟩ := by decide +kernel
theorem d3_7 : decode prog_25_method_4_code 7 = .ok (.aload_n 0, 1) := by decide +kernel
theorem d3_8 : decode prog_25_method_4_code 8 = .ok (.getfield 13, 3) := by decide +kernel
theorem d3_11 : decode prog_25_method_4_code 11 = .ok (.invokevirtual 17, 3) := by decide +kernel
theorem d3_14 : decode prog_25_method_4_code 14 = .ok (.aload_n 0, 1) := by decide +kernel
theorem d3_15 : decode prog_25_method_4_code 15 = .ok (.getfield 7, 3) := by decide +kernel
theorem d3_18 : decode prog_25_method_4_code 18 = .ok (.lcmp, 1) := by decide +kernel
theorem d3_19 : decode prog_25_method_4_code 19 = .ok (.ifCond .ne 7, 3) := by decide +kernel
theorem d3_22 : decode prog_25_method_4_code 22 = .ok (.iconst 1, 1) := by decide +kernel
theorem d3_23 : decode prog_25_method_4_code 23 = .ok (.goto 4, 3) := by decide +kernel
theorem ef_3 (m : MethodId) (r0 : Addr) : entryFrame m #[(.ref r0)] 1 = mkF m 0 #[.val (.ref r0)] [] := by first | (simp [entryFrame, mkF, argsToLocals, Value.category]; done) | rfl
def Q3 (Z : State) (r0 : Addr) (km : Int64) (rx : Addr) (kv : Int64) (h0 : Heap) (n0 : Nat) (v : Option Value) (h : Heap) (L : List Loc) : Prop := v = some (.int (fx kv km)) ∧ Fr n0 L ∧ h = h0
set_option maxRecDepth 65536 in
set_option maxHeartbeats 40000000 in
theorem rm3 (l : Launch) (Z : State) (a0 : Array Value) (hw : ∀ d ∈ tables_1, d.before a0 Z = true) (ws : List Jvm.Cond) (r0 : Addr) (km : Int64) (rx : Addr) (kv : Int64) (h0 : Heap) (n0 : Nat) (Z0 : n0 ≤ h0.size) (F_min : Fld Z h0 r0 "com/example/lading/lading/core/Occurrence" "min" "J" (.long km)) (F_max : Fld Z h0 r0 "com/example/lading/lading/core/Occurrence" "max" "Ljava/lang/Long;" (.ref rx)) (E_x : Exa Z h0 rx "java/lang/Long") (F_v : Fld Z h0 rx "java/lang/Long" "value" "J" (.long kv)) :
    MetFree l (⟨"com/example/lading/lading/core/Occurrence", "isFixed", "()Z"⟩ : MethodName) (head1 (Jvm.Cond.code (⟨"com/example/lading/lading/core/Occurrence", "isFixed", "()Z"⟩ : MethodName) prog_25_method_4_code 1 (some .boolean) :: ws) ({ frames := 1, cells := 0, slots := 0, locals := 12 } : Room)) (fun a U => a = #[(.ref r0)] ∧ Z.Warmed39 U.vm ∧ U.heap = h0) (fun _ _ _ _ _ => True) (fun _ U o U' => ∃ v L, o = .returned v ∧ Q3 Z r0 km rx kv h0 n0 v U'.heap L ∧ FrameEnd U o U' L ({ frames := 1, cells := 0, slots := 0, locals := 12 } : Room).cells ({ frames := 1, cells := 0, slots := 0, locals := 12 } : Room).slots) := by
  refine MetFree.of_bodySF (plainFor_of_name pn_3) hisR ?_
  intro p e s m args below meth c s₁ Bd hml0 hP hK
  obtain ⟨rfl, hZ, hh⟩ := hP
  have hx := Bd.exec
  have hby := Bd.bytes
  have hml : c.maxLocals = 1 := hml0
  have hown : s.vm.findClass "com/example/lading/lading/core/Occurrence" = some m.cls := findClass_of_methodNamed Bd.named
  have hnm := (name_of_methodNamed Bd.named Bd.method).1
  have X0 : Stand p l e ({ frames := 1, cells := 0, slots := 0, locals := 12 } : Room) s m #[(.ref r0)] below meth c s₁ [] 0 0 := Stand.of_body Bd
  have e0 : s₁.heap = h0 := by rw [← hh, Bd.state]; rfl
  have N0 := Fr.nil n0
  refine own_go (A' := (s₁.setTop (mkF m 0 #[.val (.ref r0)] []))) (fun t k => castTop (ef_3 m r0) k) ?_
  obtain ⟨T19, X19, e19, st19⟩ := getF X0 hx hZ hown (host := "") (Or.inl (hw _ (List.mem_of_getElem? (i := 11) rfl))) Via.refl e0 F_max (g := (mkF m 1 #[.val (.ref r0)] [(.ref r0)])) rfl rfl (hb hby d3_1)
  refine own_go (A' := (T19.setTop (mkF m 4 #[.val (.ref r0)] [(.ref rx)]))) (fun t k => ?_) ?_
  · show Steps p.tables e below (s₁.setTop (mkF m 0 #[.val (.ref r0)] [])) _
    refine XS.aloadN X0.here hx rfl (hb hby d3_0) rfl rfl ?_
    show Steps p.tables e below (s₁.setTop (mkF m 1 #[.val (.ref r0)] [(.ref r0)])) _
    refine st19 _ ?_
    exact k
  refine own_go (A' := (T19.setTop (mkF m 7 #[.val (.ref r0)] []))) (fun t k => XS.ifnullNo X19.here hx rfl (hb hby d3_4) rfl k) ?_
  obtain ⟨T20, X20, e20, st20⟩ := getF X19 hx hZ hown (host := "") (Or.inl (hw _ (List.mem_of_getElem? (i := 11) rfl))) Via.refl e19 F_max (g := (mkF m 8 #[.val (.ref r0)] [(.ref r0)])) rfl rfl (hb hby d3_8)
  obtain ⟨cq21, kq21, q21a, q21b, q21c⟩ := isOf hZ e20 E_x
  obtain ⟨_, _, ⟨T21, L21, k21, n21⟩, -, X21, ⟨Lc21, hQ21, l21, y21, z21⟩, st21⟩ := X20.virtualBack hx (y := (⟨"java/lang/Long", "longValue", "()J"⟩ : MethodName)) (z := (⟨"java/lang/Long", "longValue", "()J"⟩ : MethodName)) hown (mvT hZ (hw _ (List.mem_of_getElem? (i := 26) rfl))) (mvT hZ (hw _ (List.mem_of_getElem? (i := 27) rfl))) (notFace_of_selects (args := #[]) (mvT hZ (hw _ (List.mem_of_getElem? (i := 29) rfl)))) (mvT hZ (hw _ (List.mem_of_getElem? (i := 29) rfl))) (mvT hZ (hw _ (List.mem_of_getElem? (i := 28) rfl))) (by decide) (backOf (W := 0) (rm5 l Z a0 hw [] rx kv h0 n0 Z0 F_v) hZ (hw _ (List.mem_of_getElem? (i := 30) rfl)) (hw _ (List.mem_of_getElem? (i := 20) rfl)) (by decide) (by decide)) q21a q21c (g := (mkF m 11 #[.val (.ref r0)] [(.ref rx)])) rfl (by rw [hml]; rfl) (Steps.refl _) (argsL := []) (rest := []) (lenOf pd_2 rfl) rfl (by show 2 * 0 + _ ≤ _; exact Nat.le_of_eq rfl) (hb hby d3_11) (fun _ _ => ⟨rfl, e20, (by decide : 0 + 0 ≤ _), (by decide : 0 + 0 ≤ _)⟩)
  dsimp only [Pt.U, Pt.locs, Pt.cells, Pt.slots] at X21 l21 y21 z21 st21 hQ21
  subst l21 y21 z21
  obtain ⟨rfl, N21q, e21⟩ := hQ21
  have N21 := Fr.app N0 N21q
  obtain ⟨T22, X22, e22, st22⟩ := getF X21 hx hZ hown (host := "") (Or.inl (hw _ (List.mem_of_getElem? (i := 9) rfl))) Via.refl e21 F_min (g := (mkF m 15 #[.val (.ref r0)] [(.ref r0), (.long kv)])) rfl rfl (hb hby d3_15)
  refine own_go (A' := (T22.setTop (mkF m 19 #[.val (.ref r0)] [(.int (lcmpW kv km))]))) (fun t k => ?_) ?_
  · show Steps p.tables e below (T19.setTop (mkF m 7 #[.val (.ref r0)] [])) _
    refine XS.aloadN X19.here hx rfl (hb hby d3_7) rfl rfl ?_
    show Steps p.tables e below (T19.setTop (mkF m 8 #[.val (.ref r0)] [(.ref r0)])) _
    refine st20 _ ?_
    show Steps p.tables e below (T20.setTop (mkF m 11 #[.val (.ref r0)] [(.ref rx)])) _
    refine st21.trans ?_
    show Steps p.tables e below (T21.setTop (mkF m 14 #[.val (.ref r0)] [(.long kv)])) _
    refine XS.aloadN X21.here hx rfl (hb hby d3_14) rfl rfl ?_
    show Steps p.tables e below (T21.setTop (mkF m 15 #[.val (.ref r0)] [(.ref r0), (.long kv)])) _
    refine st22 _ ?_
    show Steps p.tables e below (T22.setTop (mkF m 18 #[.val (.ref r0)] [(.long km), (.long kv)])) _
    refine XS.lcmp X22.here hx rfl (hb hby d3_18) rfl ?_
    exact k
  by_cases hc23 : (lcmpW kv km) = (0 : Int32)
  · -- hc23: yes
    refine own_go (A' := (T22.setTop (mkF m 22 #[.val (.ref r0)] []))) (fun t k => XS.ifNo X22.here hx rfl (hb hby d3_19) rfl ((if0 _ _).trans (teq hc23).2) k) ?_
    refine own_go (A' := (T22.setTop (mkF m 27 #[.val (.ref r0)] [(.int (1 : Int32))]))) (fun t k => ?_) ?_
    · show Steps p.tables e below (T22.setTop (mkF m 22 #[.val (.ref r0)] [])) _
      refine XS.iconst X22.here hx rfl (hb hby d3_22) ?_
      show Steps p.tables e below (T22.setTop (mkF m 23 #[.val (.ref r0)] [(.int (1 : Int32))])) _
      refine XS.goto X22.here hx rfl (pc0 := 23) (pc' := 27) rfl (hb hby d3_23) (by decide) (by decide) ?_
      exact k
    obtain ⟨fs, hr, hrun, hended, hW, hsame⟩ := X22.leave (v := some (.int (1 : Int32))) (fun h => by rw [Bd.returns] at h; cases h)
    refine ⟨_, _, ?_, hrun, hended, _, _, rfl, ?_, ⟨_, rfl⟩, hW, hsame.mono (by decide) (by decide)⟩
    · show Steps p.tables e below (T22.setTop (mkF m 27 #[.val (.ref r0)] [(.int (1 : Int32))])) _
      exact retN X22 hx (t := .boolean) Bd.returns (by simp) (hb hby d3_27) hr
    · show Q3 Z r0 km rx kv h0 n0 _ T22.heap _
      exact ⟨(by rw [fx, if_pos hc23]), N21, e22⟩
  · -- hc23: no
    refine own_go (A' := (T22.setTop (mkF m 26 #[.val (.ref r0)] []))) (fun t k => XS.ifYes X22.here hx rfl (pc0 := 19) (pc' := 26) rfl (hb hby d3_19) rfl ((if0 _ _).trans (feq hc23).2) (by decide) (by decide) k) ?_
    refine own_go (A' := (T22.setTop (mkF m 27 #[.val (.ref r0)] [(.int (0 : Int32))]))) (fun t k => ?_) ?_
    · show Steps p.tables e below (T22.setTop (mkF m 26 #[.val (.ref r0)] [])) _
      refine XS.iconst X22.here hx rfl (hb hby d3_26) ?_
      exact k
    obtain ⟨fs, hr, hrun, hended, hW, hsame⟩ := X22.leave (v := some (.int (0 : Int32))) (fun h => by rw [Bd.returns] at h; cases h)
    refine ⟨_, _, ?_, hrun, hended, _, _, rfl, ?_, ⟨_, rfl⟩, hW, hsame.mono (by decide) (by decide)⟩
    · show Steps p.tables e below (T22.setTop (mkF m 27 #[.val (.ref r0)] [(.int (0 : Int32))])) _
      exact retN X22 hx (t := .boolean) Bd.returns (by simp) (hb hby d3_27) hr
    · show Q3 Z r0 km rx kv h0 n0 _ T22.heap _
      exact ⟨(by rw [fx, if_neg hc23]), N21, e22⟩
theorem pd_3 : parseMethodDescriptor "(JLjava/lang/Long;)V" = some ⟨[.long, (.object "java/lang/Long")], none⟩ := by decide +kernel
theorem pd_4 : parseMethodDescriptor "()Z" = some ⟨[], some .boolean⟩ := by decide +kernel
theorem pd_5 : parseMethodDescriptor "(J)Ljava/lang/Long;" = some ⟨[.long], some (.object "java/lang/Long")⟩ := by decide +kernel
theorem pn_0 : plainName "com/example/lading/lading/core/OccurrenceIsFixedPinLaw" = true := by first | (simp [plainName, overriddenIn]; done) | decide +kernel
theorem ef_0 (m : MethodId) (q0 : Int64) (q1 : Int64) (p2 : Int32) : entryFrame m #[(.long q0), (.long q1), (.int p2)] maxLocals = mkF m 0 #[.val (.long q0), .second, .val (.long q1), .second, .val (.int p2), .unset, .unset, .unset, .unset, .unset, .unset, .unset] [] := by first | (simp [entryFrame, mkF, argsToLocals, Value.category, maxLocals]; done) | rfl
def Q0 (Z : State) (q0 : Int64) (q1 : Int64) (p2 : Int32) (wC : Addr) (clC : Cell) (h0 : Heap) (n0 : Nat) (v : Option Value) (h : Heap) (L : List Loc) : Prop := v = some (.int (1 : Int32)) ∧ Fr n0 L
set_option maxRecDepth 65536 in
set_option maxHeartbeats 40000000 in
theorem rm0 (l : Launch) (Z : State) (a0 : Array Value) (hw : ∀ d ∈ tables_1, d.before a0 Z = true) (ws : List Jvm.Cond) (q0 : Int64) (q1 : Int64) (p2 : Int32) (wC : Addr) (clC : Cell) (h0 : Heap) (n0 : Nat) (Z0 : n0 ≤ h0.size) (S_cache : Sta Z h0 "java/lang/Long$LongCache" "cache" "[Ljava/lang/Long;" (.ref wC)) (Ar_C : Arr Z h0 wC clC (.object "java/lang/Long")) (L_C : clC.slots.size = 256) (P_C : ∀ j : Nat, j < 256 → ∃ b : Addr, clC.slots[j]? = some (.ref b) ∧ Exa Z h0 b "java/lang/Long" ∧ Fld Z h0 b "java/lang/Long" "value" "J" (.long ((j.toInt32 - 128).toInt64))) :
    MetFree l x (head1 (Jvm.Cond.code x code maxLocals ret :: ws) room_1) (fun a U => a = #[(.long q0), (.long q1), (.int p2)] ∧ Z.Warmed39 U.vm ∧ U.heap = h0) (fun _ _ _ _ _ => True) (fun _ U o U' => ∃ v L, o = .returned v ∧ Q0 Z q0 q1 p2 wC clC h0 n0 v U'.heap L ∧ FrameEnd U o U' L room_1.cells room_1.slots) := by
  refine MetFree.of_bodySF (plainFor_of_name pn_0) hisR ?_
  intro p e s m args below meth c s₁ Bd hml0 hP hK
  obtain ⟨rfl, hZ, hh⟩ := hP
  have hx := Bd.exec
  have hby := Bd.bytes
  have hml : c.maxLocals = 12 := hml0
  have hown : s.vm.findClass "com/example/lading/lading/core/OccurrenceIsFixedPinLaw" = some m.cls := findClass_of_methodNamed Bd.named
  have hnm := (name_of_methodNamed Bd.named Bd.method).1
  have X0 : Stand p l e room_1 s m #[(.long q0), (.long q1), (.int p2)] below meth c s₁ [] 0 0 := Stand.of_body Bd
  have e0 : s₁.heap = h0 := by rw [← hh, Bd.state]; rfl
  have N0 := Fr.nil n0
  refine own_go (A' := (s₁.setTop (mkF m 0 #[.val (.long q0), .second, .val (.long q1), .second, .val (.int p2), .unset, .unset, .unset, .unset, .unset, .unset, .unset] []))) (fun t k => castTop (ef_0 m q0 q1 p2) k) ?_
  refine own_go (A' := (s₁.setTop (mkF m 4 #[.val (.long q0), .second, .val (.long q1), .second, .val (.int p2), .unset, .unset, .unset, .unset, .unset, .unset, .unset] [(.int (p2 &&& (1 : Int32)))]))) (fun t k => ?_) ?_
  · show Steps p.tables e below (s₁.setTop (mkF m 0 #[.val (.long q0), .second, .val (.long q1), .second, .val (.int p2), .unset, .unset, .unset, .unset, .unset, .unset, .unset] [])) _
    refine XS.iload X0.here hx rfl (hb hby at_0) rfl ?_
    show Steps p.tables e below (s₁.setTop (mkF m 2 #[.val (.long q0), .second, .val (.long q1), .second, .val (.int p2), .unset, .unset, .unset, .unset, .unset, .unset, .unset] [(.int p2)])) _
    refine XS.iconst X0.here hx rfl (hb hby at_2) ?_
    show Steps p.tables e below (s₁.setTop (mkF m 3 #[.val (.long q0), .second, .val (.long q1), .second, .val (.int p2), .unset, .unset, .unset, .unset, .unset, .unset, .unset] [(.int (1 : Int32)), (.int p2)])) _
    refine XS.iand X0.here hx rfl (hb hby at_3) rfl ?_
    exact k
  by_cases hc24 : (p2 &&& (1 : Int32)) = (0 : Int32)
  · -- hc24: yes
    refine own_go (A' := (s₁.setTop (mkF m 11 #[.val (.long q0), .second, .val (.long q1), .second, .val (.int p2), .unset, .unset, .unset, .unset, .unset, .unset, .unset] []))) (fun t k => XS.ifYes X0.here hx rfl (pc0 := 4) (pc' := 11) rfl (hb hby at_4) rfl ((if0 _ _).trans (teq hc24).1) (by decide) (by decide) k) ?_
    refine own_go (A' := (s₁.setTop (mkF m 24 #[.val (.long q0), .second, .val (.long q1), .second, .val (.int p2), .val (.int (0 : Int32)), .val (.int (((p2.toUInt32 >>> ((1 : Int32) &&& 31).toUInt32).toInt32) &&& (3 : Int32))), .unset, .unset, .unset, .unset, .unset] [(.int (((p2.toUInt32 >>> ((1 : Int32) &&& 31).toUInt32).toInt32) &&& (3 : Int32)))]))) (fun t k => ?_) ?_
    · show Steps p.tables e below (s₁.setTop (mkF m 11 #[.val (.long q0), .second, .val (.long q1), .second, .val (.int p2), .unset, .unset, .unset, .unset, .unset, .unset, .unset] [])) _
      refine XS.iconst X0.here hx rfl (hb hby at_11) ?_
      show Steps p.tables e below (s₁.setTop (mkF m 12 #[.val (.long q0), .second, .val (.long q1), .second, .val (.int p2), .unset, .unset, .unset, .unset, .unset, .unset, .unset] [(.int (0 : Int32))])) _
      refine XS.istore X0.here hx rfl (hb hby at_12) rfl (l' := #[.val (.long q0), .second, .val (.long q1), .second, .val (.int p2), .val (.int (0 : Int32)), .unset, .unset, .unset, .unset, .unset, .unset]) rfl ?_
      show Steps p.tables e below (s₁.setTop (mkF m 14 #[.val (.long q0), .second, .val (.long q1), .second, .val (.int p2), .val (.int (0 : Int32)), .unset, .unset, .unset, .unset, .unset, .unset] [])) _
      refine XS.iload X0.here hx rfl (hb hby at_14) rfl ?_
      show Steps p.tables e below (s₁.setTop (mkF m 16 #[.val (.long q0), .second, .val (.long q1), .second, .val (.int p2), .val (.int (0 : Int32)), .unset, .unset, .unset, .unset, .unset, .unset] [(.int p2)])) _
      refine XS.iconst X0.here hx rfl (hb hby at_16) ?_
      show Steps p.tables e below (s₁.setTop (mkF m 17 #[.val (.long q0), .second, .val (.long q1), .second, .val (.int p2), .val (.int (0 : Int32)), .unset, .unset, .unset, .unset, .unset, .unset] [(.int (1 : Int32)), (.int p2)])) _
      refine XS.iushr X0.here hx rfl (hb hby at_17) rfl ?_
      show Steps p.tables e below (s₁.setTop (mkF m 18 #[.val (.long q0), .second, .val (.long q1), .second, .val (.int p2), .val (.int (0 : Int32)), .unset, .unset, .unset, .unset, .unset, .unset] [(.int ((p2.toUInt32 >>> ((1 : Int32) &&& 31).toUInt32).toInt32))])) _
      refine XS.iconst X0.here hx rfl (hb hby at_18) ?_
      show Steps p.tables e below (s₁.setTop (mkF m 19 #[.val (.long q0), .second, .val (.long q1), .second, .val (.int p2), .val (.int (0 : Int32)), .unset, .unset, .unset, .unset, .unset, .unset] [(.int (3 : Int32)), (.int ((p2.toUInt32 >>> ((1 : Int32) &&& 31).toUInt32).toInt32))])) _
      refine XS.iand X0.here hx rfl (hb hby at_19) rfl ?_
      show Steps p.tables e below (s₁.setTop (mkF m 20 #[.val (.long q0), .second, .val (.long q1), .second, .val (.int p2), .val (.int (0 : Int32)), .unset, .unset, .unset, .unset, .unset, .unset] [(.int (((p2.toUInt32 >>> ((1 : Int32) &&& 31).toUInt32).toInt32) &&& (3 : Int32)))])) _
      refine XS.istore X0.here hx rfl (hb hby at_20) rfl (l' := #[.val (.long q0), .second, .val (.long q1), .second, .val (.int p2), .val (.int (0 : Int32)), .val (.int (((p2.toUInt32 >>> ((1 : Int32) &&& 31).toUInt32).toInt32) &&& (3 : Int32))), .unset, .unset, .unset, .unset, .unset]) rfl ?_
      show Steps p.tables e below (s₁.setTop (mkF m 22 #[.val (.long q0), .second, .val (.long q1), .second, .val (.int p2), .val (.int (0 : Int32)), .val (.int (((p2.toUInt32 >>> ((1 : Int32) &&& 31).toUInt32).toInt32) &&& (3 : Int32))), .unset, .unset, .unset, .unset, .unset] [])) _
      refine XS.iload X0.here hx rfl (hb hby at_22) rfl ?_
      exact k
    by_cases hc25 : (((p2.toUInt32 >>> ((1 : Int32) &&& 31).toUInt32).toInt32) &&& (3 : Int32)) = (0 : Int32)
    · -- hc25: yes
      refine own_go (A' := (s₁.setTop (mkF m 27 #[.val (.long q0), .second, .val (.long q1), .second, .val (.int p2), .val (.int (0 : Int32)), .val (.int (((p2.toUInt32 >>> ((1 : Int32) &&& 31).toUInt32).toInt32) &&& (3 : Int32))), .unset, .unset, .unset, .unset, .unset] []))) (fun t k => XS.ifNo X0.here hx rfl (hb hby at_24) rfl ((if0 _ _).trans (teq hc25).2) k) ?_
      refine own_go (A' := (s₁.setTop (mkF m 66 #[.val (.long q0), .second, .val (.long q1), .second, .val (.int p2), .val (.int (0 : Int32)), .val (.int (((p2.toUInt32 >>> ((1 : Int32) &&& 31).toUInt32).toInt32) &&& (3 : Int32))), .val (.long q1), .second, .unset, .unset, .unset] [(.int (0 : Int32))]))) (fun t k => ?_) ?_
      · show Steps p.tables e below (s₁.setTop (mkF m 27 #[.val (.long q0), .second, .val (.long q1), .second, .val (.int p2), .val (.int (0 : Int32)), .val (.int (((p2.toUInt32 >>> ((1 : Int32) &&& 31).toUInt32).toInt32) &&& (3 : Int32))), .unset, .unset, .unset, .unset, .unset] [])) _
        refine XS.lloadN X0.here hx rfl (hb hby at_27) rfl ?_
        show Steps p.tables e below (s₁.setTop (mkF m 28 #[.val (.long q0), .second, .val (.long q1), .second, .val (.int p2), .val (.int (0 : Int32)), .val (.int (((p2.toUInt32 >>> ((1 : Int32) &&& 31).toUInt32).toInt32) &&& (3 : Int32))), .unset, .unset, .unset, .unset, .unset] [(.long q1)])) _
        refine XS.lstore X0.here hx rfl (hb hby at_28) rfl (l' := #[.val (.long q0), .second, .val (.long q1), .second, .val (.int p2), .val (.int (0 : Int32)), .val (.int (((p2.toUInt32 >>> ((1 : Int32) &&& 31).toUInt32).toInt32) &&& (3 : Int32))), .val (.long q1), .second, .unset, .unset, .unset]) rfl ?_
        show Steps p.tables e below (s₁.setTop (mkF m 30 #[.val (.long q0), .second, .val (.long q1), .second, .val (.int p2), .val (.int (0 : Int32)), .val (.int (((p2.toUInt32 >>> ((1 : Int32) &&& 31).toUInt32).toInt32) &&& (3 : Int32))), .val (.long q1), .second, .unset, .unset, .unset] [])) _
        refine XS.goto X0.here hx rfl (pc0 := 30) (pc' := 64) rfl (hb hby at_30) (by decide) (by decide) ?_
        show Steps p.tables e below (s₁.setTop (mkF m 64 #[.val (.long q0), .second, .val (.long q1), .second, .val (.int p2), .val (.int (0 : Int32)), .val (.int (((p2.toUInt32 >>> ((1 : Int32) &&& 31).toUInt32).toInt32) &&& (3 : Int32))), .val (.long q1), .second, .unset, .unset, .unset] [])) _
        refine XS.iload X0.here hx rfl (hb hby at_64) rfl ?_
        exact k
      refine own_go (A' := (s₁.setTop (mkF m 77 #[.val (.long q0), .second, .val (.long q1), .second, .val (.int p2), .val (.int (0 : Int32)), .val (.int (((p2.toUInt32 >>> ((1 : Int32) &&& 31).toUInt32).toInt32) &&& (3 : Int32))), .val (.long q1), .second, .unset, .unset, .unset] []))) (fun t k => XS.ifYes X0.here hx rfl (pc0 := 66) (pc' := 77) rfl (hb hby at_66) rfl ((if0 _ _).trans (teq (by decide : (0 : Int32) = (0 : Int32))).1) (by decide) (by decide) k) ?_
      obtain ⟨T26, h26, X26, e26, E26, A26, D26, -, st26⟩ := newO X0 hx hZ hown (hw _ (List.mem_of_getElem? (i := 0) rfl)) (hw _ (List.mem_of_getElem? (i := 1) rfl)) (hw _ (List.mem_of_getElem? (i := 2) rfl)) e0 (g := (mkF m 80 #[.val (.long q0), .second, .val (.long q1), .second, .val (.int p2), .val (.int (0 : Int32)), .val (.int (((p2.toUInt32 >>> ((1 : Int32) &&& 31).toUInt32).toInt32) &&& (3 : Int32))), .val (.long q1), .second, .val .null, .unset, .unset] [])) rfl (hb hby at_80) (by decide) (by decide)
      obtain ⟨b26, g26⟩ : ∃ z, z = h0.size := ⟨_, rfl⟩
      have sz_b26 : h0.size ≤ b26 := Nat.le_of_eq g26.symm
      rw [← g26] at A26 D26 st26
      have K26 : Keep h0 h26 [] := (Keep.refl h0 []).ext E26
      have B26 : Ext h0 h26 := own_keep_ext K26
      have F26_min : Fld Z h26 b26 "com/example/lading/lading/core/Occurrence" "min" "J" (.long (0 : Int64)) := D26 (Or.inr (hw _ (List.mem_of_getElem? (i := 10) rfl))) (ty := .long) (by decide)
      have F26_max : Fld Z h26 b26 "com/example/lading/lading/core/Occurrence" "max" "Ljava/lang/Long;" .null := D26 (Or.inr (hw _ (List.mem_of_getElem? (i := 12) rfl))) (ty := (.object "java/lang/Long")) (by decide)
      obtain ⟨_, _, ⟨T27, L27, k27, n27⟩, -, X27, ⟨Lc27, hQ27, l27, y27, z27⟩, st27⟩ := X26.specialBack hx (y := (⟨"com/example/lading/lading/core/Occurrence", "<init>", "(JLjava/lang/Long;)V"⟩ : MethodName)) rfl hown (mvT hZ (hw _ (List.mem_of_getElem? (i := 3) rfl))) (mvT hZ (hw _ (List.mem_of_getElem? (i := 4) rfl))) (mvT hZ (hw _ (List.mem_of_getElem? (i := 5) rfl))) (by decide) (backOf (W := 1) (rm1n l Z a0 hw [] b26 q0  h26 n0 (Nat.le_trans Z0 K26.1) A26 F26_min F26_max (Nat.le_trans Z0 sz_b26)) hZ (hw _ (List.mem_of_getElem? (i := 5) rfl)) (hw _ (List.mem_of_getElem? (i := 2) rfl)) (by decide) (by decide)) (g := (mkF m 87 #[.val (.long q0), .second, .val (.long q1), .second, .val (.int p2), .val (.int (0 : Int32)), .val (.int (((p2.toUInt32 >>> ((1 : Int32) &&& 31).toUInt32).toInt32) &&& (3 : Int32))), .val (.long q1), .second, .val .null, .unset, .unset] [.null, (.long q0), (.ref b26), (.ref b26)])) rfl (by rw [hml]; rfl) (Steps.refl _) (a := b26) (argsL := [(.long q0), .null]) (rest := [(.ref b26)]) (lenOf pd_3 rfl) rfl (by show 2 * 0 + _ ≤ _; exact Nat.le_of_eq rfl) (hb hby at_87) (fun _ _ => ⟨rfl, e26, (by decide : 1 + 0 ≤ _), (by decide : 2 + 0 ≤ _)⟩)
      dsimp only [Pt.U, Pt.locs, Pt.cells, Pt.slots] at X27 l27 y27 z27 st27 hQ27
      subst l27 y27 z27
      obtain ⟨rfl, N27q, K27q, E27q, F27q, G27q⟩ := hQ27
      have N27 := Fr.app N0 N27q
      have K27 : Keep h0 T27.heap [] := K26.trans K27q (allS (Or.inr sz_b26) all0)
      have B27 : Ext h0 T27.heap := own_keep_ext K27
      refine own_go (A' := (T27.setTop (mkF m 94 #[.val (.long q0), .second, .val (.long q1), .second, .val (.int p2), .val (.int (0 : Int32)), .val (.int (((p2.toUInt32 >>> ((1 : Int32) &&& 31).toUInt32).toInt32) &&& (3 : Int32))), .val (.long q1), .second, .val .null, .val (.ref b26), .unset] [(.int (0 : Int32))]))) (fun t k => ?_) ?_
      · show Steps p.tables e below (s₁.setTop (mkF m 77 #[.val (.long q0), .second, .val (.long q1), .second, .val (.int p2), .val (.int (0 : Int32)), .val (.int (((p2.toUInt32 >>> ((1 : Int32) &&& 31).toUInt32).toInt32) &&& (3 : Int32))), .val (.long q1), .second, .unset, .unset, .unset] [])) _
        refine XS.aconstNull X0.here hx rfl (hb hby at_77) ?_
        show Steps p.tables e below (s₁.setTop (mkF m 78 #[.val (.long q0), .second, .val (.long q1), .second, .val (.int p2), .val (.int (0 : Int32)), .val (.int (((p2.toUInt32 >>> ((1 : Int32) &&& 31).toUInt32).toInt32) &&& (3 : Int32))), .val (.long q1), .second, .unset, .unset, .unset] [.null])) _
        refine XS.astore X0.here hx rfl (hb hby at_78) rfl rfl (l' := #[.val (.long q0), .second, .val (.long q1), .second, .val (.int p2), .val (.int (0 : Int32)), .val (.int (((p2.toUInt32 >>> ((1 : Int32) &&& 31).toUInt32).toInt32) &&& (3 : Int32))), .val (.long q1), .second, .val .null, .unset, .unset]) rfl ?_
        show Steps p.tables e below (s₁.setTop (mkF m 80 #[.val (.long q0), .second, .val (.long q1), .second, .val (.int p2), .val (.int (0 : Int32)), .val (.int (((p2.toUInt32 >>> ((1 : Int32) &&& 31).toUInt32).toInt32) &&& (3 : Int32))), .val (.long q1), .second, .val .null, .unset, .unset] [])) _
        refine st26 _ ?_
        show Steps p.tables e below (T26.setTop (mkF m 83 #[.val (.long q0), .second, .val (.long q1), .second, .val (.int p2), .val (.int (0 : Int32)), .val (.int (((p2.toUInt32 >>> ((1 : Int32) &&& 31).toUInt32).toInt32) &&& (3 : Int32))), .val (.long q1), .second, .val .null, .unset, .unset] [(.ref b26)])) _
        refine XS.dup X26.here hx rfl (hb hby at_83) rfl rfl ?_
        show Steps p.tables e below (T26.setTop (mkF m 84 #[.val (.long q0), .second, .val (.long q1), .second, .val (.int p2), .val (.int (0 : Int32)), .val (.int (((p2.toUInt32 >>> ((1 : Int32) &&& 31).toUInt32).toInt32) &&& (3 : Int32))), .val (.long q1), .second, .val .null, .unset, .unset] [(.ref b26), (.ref b26)])) _
        refine XS.lloadN X26.here hx rfl (hb hby at_84) rfl ?_
        show Steps p.tables e below (T26.setTop (mkF m 85 #[.val (.long q0), .second, .val (.long q1), .second, .val (.int p2), .val (.int (0 : Int32)), .val (.int (((p2.toUInt32 >>> ((1 : Int32) &&& 31).toUInt32).toInt32) &&& (3 : Int32))), .val (.long q1), .second, .val .null, .unset, .unset] [(.long q0), (.ref b26), (.ref b26)])) _
        refine XS.aload X26.here hx rfl (hb hby at_85) rfl rfl ?_
        show Steps p.tables e below (T26.setTop (mkF m 87 #[.val (.long q0), .second, .val (.long q1), .second, .val (.int p2), .val (.int (0 : Int32)), .val (.int (((p2.toUInt32 >>> ((1 : Int32) &&& 31).toUInt32).toInt32) &&& (3 : Int32))), .val (.long q1), .second, .val .null, .unset, .unset] [.null, (.long q0), (.ref b26), (.ref b26)])) _
        refine st27.trans ?_
        show Steps p.tables e below (T27.setTop (mkF m 90 #[.val (.long q0), .second, .val (.long q1), .second, .val (.int p2), .val (.int (0 : Int32)), .val (.int (((p2.toUInt32 >>> ((1 : Int32) &&& 31).toUInt32).toInt32) &&& (3 : Int32))), .val (.long q1), .second, .val .null, .unset, .unset] [(.ref b26)])) _
        refine XS.astore X27.here hx rfl (hb hby at_90) rfl rfl (l' := #[.val (.long q0), .second, .val (.long q1), .second, .val (.int p2), .val (.int (0 : Int32)), .val (.int (((p2.toUInt32 >>> ((1 : Int32) &&& 31).toUInt32).toInt32) &&& (3 : Int32))), .val (.long q1), .second, .val .null, .val (.ref b26), .unset]) rfl ?_
        show Steps p.tables e below (T27.setTop (mkF m 92 #[.val (.long q0), .second, .val (.long q1), .second, .val (.int p2), .val (.int (0 : Int32)), .val (.int (((p2.toUInt32 >>> ((1 : Int32) &&& 31).toUInt32).toInt32) &&& (3 : Int32))), .val (.long q1), .second, .val .null, .val (.ref b26), .unset] [])) _
        refine XS.iload X27.here hx rfl (hb hby at_92) rfl ?_
        exact k
      refine own_go (A' := (T27.setTop (mkF m 108 #[.val (.long q0), .second, .val (.long q1), .second, .val (.int p2), .val (.int (0 : Int32)), .val (.int (((p2.toUInt32 >>> ((1 : Int32) &&& 31).toUInt32).toInt32) &&& (3 : Int32))), .val (.long q1), .second, .val .null, .val (.ref b26), .unset] []))) (fun t k => XS.ifYes X27.here hx rfl (pc0 := 94) (pc' := 108) rfl (hb hby at_94) rfl ((if0 _ _).trans (teq (by decide : (0 : Int32) = (0 : Int32))).1) (by decide) (by decide) k) ?_
      obtain ⟨cq28, kq28, q28a, q28b, q28c⟩ := isOf hZ rfl E27q
      obtain ⟨_, _, ⟨T28, L28, k28, n28⟩, -, X28, ⟨Lc28, hQ28, l28, y28, z28⟩, st28⟩ := X27.virtualBack hx (y := (⟨"com/example/lading/lading/core/Occurrence", "isFixed", "()Z"⟩ : MethodName)) (z := (⟨"com/example/lading/lading/core/Occurrence", "isFixed", "()Z"⟩ : MethodName)) hown (mvT hZ (hw _ (List.mem_of_getElem? (i := 13) rfl))) (mvT hZ (hw _ (List.mem_of_getElem? (i := 14) rfl))) (notFace_of_selects (args := #[]) (mvT hZ (hw _ (List.mem_of_getElem? (i := 16) rfl)))) (mvT hZ (hw _ (List.mem_of_getElem? (i := 16) rfl))) (mvT hZ (hw _ (List.mem_of_getElem? (i := 15) rfl))) (by decide) (backOf (W := 0) (rm3n l Z a0 hw [] b26 q0 T27.heap n0 (Nat.le_trans Z0 K27.1) F27q G27q) hZ (hw _ (List.mem_of_getElem? (i := 17) rfl)) (hw _ (List.mem_of_getElem? (i := 2) rfl)) (by decide) (by decide)) q28a q28c (g := (mkF m 113 #[.val (.long q0), .second, .val (.long q1), .second, .val (.int p2), .val (.int (0 : Int32)), .val (.int (((p2.toUInt32 >>> ((1 : Int32) &&& 31).toUInt32).toInt32) &&& (3 : Int32))), .val (.long q1), .second, .val .null, .val (.ref b26), .val (.int (0 : Int32))] [(.ref b26)])) rfl (by rw [hml]; rfl) (Steps.refl _) (argsL := []) (rest := []) (lenOf pd_4 rfl) rfl (by show 2 * 0 + _ ≤ _; exact Nat.le_of_eq rfl) (hb hby at_113) (fun _ _ => ⟨rfl, rfl, (by decide : 1 + 0 ≤ _), (by decide : 2 + 0 ≤ _)⟩)
      dsimp only [Pt.U, Pt.locs, Pt.cells, Pt.slots] at X28 l28 y28 z28 st28 hQ28
      subst l28 y28 z28
      obtain ⟨rfl, N28q, e28⟩ := hQ28
      have N28 := Fr.app N27 N28q
      refine own_go (A' := (T28.setTop (mkF m 118 #[.val (.long q0), .second, .val (.long q1), .second, .val (.int p2), .val (.int (0 : Int32)), .val (.int (((p2.toUInt32 >>> ((1 : Int32) &&& 31).toUInt32).toInt32) &&& (3 : Int32))), .val (.long q1), .second, .val .null, .val (.ref b26), .val (.int (0 : Int32))] [(.int (0 : Int32)), (.int (0 : Int32))]))) (fun t k => ?_) ?_
      · show Steps p.tables e below (T27.setTop (mkF m 108 #[.val (.long q0), .second, .val (.long q1), .second, .val (.int p2), .val (.int (0 : Int32)), .val (.int (((p2.toUInt32 >>> ((1 : Int32) &&& 31).toUInt32).toInt32) &&& (3 : Int32))), .val (.long q1), .second, .val .null, .val (.ref b26), .unset] [])) _
        refine XS.iconst X27.here hx rfl (hb hby at_108) ?_
        show Steps p.tables e below (T27.setTop (mkF m 109 #[.val (.long q0), .second, .val (.long q1), .second, .val (.int p2), .val (.int (0 : Int32)), .val (.int (((p2.toUInt32 >>> ((1 : Int32) &&& 31).toUInt32).toInt32) &&& (3 : Int32))), .val (.long q1), .second, .val .null, .val (.ref b26), .unset] [(.int (0 : Int32))])) _
        refine XS.istore X27.here hx rfl (hb hby at_109) rfl (l' := #[.val (.long q0), .second, .val (.long q1), .second, .val (.int p2), .val (.int (0 : Int32)), .val (.int (((p2.toUInt32 >>> ((1 : Int32) &&& 31).toUInt32).toInt32) &&& (3 : Int32))), .val (.long q1), .second, .val .null, .val (.ref b26), .val (.int (0 : Int32))]) rfl ?_
        show Steps p.tables e below (T27.setTop (mkF m 111 #[.val (.long q0), .second, .val (.long q1), .second, .val (.int p2), .val (.int (0 : Int32)), .val (.int (((p2.toUInt32 >>> ((1 : Int32) &&& 31).toUInt32).toInt32) &&& (3 : Int32))), .val (.long q1), .second, .val .null, .val (.ref b26), .val (.int (0 : Int32))] [])) _
        refine XS.aload X27.here hx rfl (hb hby at_111) rfl rfl ?_
        show Steps p.tables e below (T27.setTop (mkF m 113 #[.val (.long q0), .second, .val (.long q1), .second, .val (.int p2), .val (.int (0 : Int32)), .val (.int (((p2.toUInt32 >>> ((1 : Int32) &&& 31).toUInt32).toInt32) &&& (3 : Int32))), .val (.long q1), .second, .val .null, .val (.ref b26), .val (.int (0 : Int32))] [(.ref b26)])) _
        refine st28.trans ?_
        show Steps p.tables e below (T28.setTop (mkF m 116 #[.val (.long q0), .second, .val (.long q1), .second, .val (.int p2), .val (.int (0 : Int32)), .val (.int (((p2.toUInt32 >>> ((1 : Int32) &&& 31).toUInt32).toInt32) &&& (3 : Int32))), .val (.long q1), .second, .val .null, .val (.ref b26), .val (.int (0 : Int32))] [(.int (0 : Int32))])) _
        refine XS.iload X28.here hx rfl (hb hby at_116) rfl ?_
        exact k
      refine own_go (A' := (T28.setTop (mkF m 121 #[.val (.long q0), .second, .val (.long q1), .second, .val (.int p2), .val (.int (0 : Int32)), .val (.int (((p2.toUInt32 >>> ((1 : Int32) &&& 31).toUInt32).toInt32) &&& (3 : Int32))), .val (.long q1), .second, .val .null, .val (.ref b26), .val (.int (0 : Int32))] []))) (fun t k => XS.icmpNo X28.here hx rfl (hb hby at_118) rfl (teq (by decide : (0 : Int32) = (0 : Int32))).2 k) ?_
      refine own_go (A' := (T28.setTop (mkF m 126 #[.val (.long q0), .second, .val (.long q1), .second, .val (.int p2), .val (.int (0 : Int32)), .val (.int (((p2.toUInt32 >>> ((1 : Int32) &&& 31).toUInt32).toInt32) &&& (3 : Int32))), .val (.long q1), .second, .val .null, .val (.ref b26), .val (.int (0 : Int32))] [(.int (1 : Int32))]))) (fun t k => ?_) ?_
      · show Steps p.tables e below (T28.setTop (mkF m 121 #[.val (.long q0), .second, .val (.long q1), .second, .val (.int p2), .val (.int (0 : Int32)), .val (.int (((p2.toUInt32 >>> ((1 : Int32) &&& 31).toUInt32).toInt32) &&& (3 : Int32))), .val (.long q1), .second, .val .null, .val (.ref b26), .val (.int (0 : Int32))] [])) _
        refine XS.iconst X28.here hx rfl (hb hby at_121) ?_
        show Steps p.tables e below (T28.setTop (mkF m 122 #[.val (.long q0), .second, .val (.long q1), .second, .val (.int p2), .val (.int (0 : Int32)), .val (.int (((p2.toUInt32 >>> ((1 : Int32) &&& 31).toUInt32).toInt32) &&& (3 : Int32))), .val (.long q1), .second, .val .null, .val (.ref b26), .val (.int (0 : Int32))] [(.int (1 : Int32))])) _
        refine XS.goto X28.here hx rfl (pc0 := 122) (pc' := 126) rfl (hb hby at_122) (by decide) (by decide) ?_
        exact k
      obtain ⟨fs, hr, hrun, hended, hW, hsame⟩ := X28.leave (v := some (.int (1 : Int32))) (fun h => by rw [Bd.returns] at h; cases h)
      refine ⟨_, _, ?_, hrun, hended, _, _, rfl, ?_, ⟨_, rfl⟩, hW, hsame.mono (by decide) (by decide)⟩
      · show Steps p.tables e below (T28.setTop (mkF m 126 #[.val (.long q0), .second, .val (.long q1), .second, .val (.int p2), .val (.int (0 : Int32)), .val (.int (((p2.toUInt32 >>> ((1 : Int32) &&& 31).toUInt32).toInt32) &&& (3 : Int32))), .val (.long q1), .second, .val .null, .val (.ref b26), .val (.int (0 : Int32))] [(.int (1 : Int32))])) _
        exact retN X28 hx (t := .boolean) Bd.returns (by simp) (hb hby at_126) hr
      · show Q0 Z q0 q1 p2 wC clC h0 n0 _ T28.heap _
        exact ⟨rfl, N28⟩
    · -- hc25: no
      refine own_go (A' := (s₁.setTop (mkF m 33 #[.val (.long q0), .second, .val (.long q1), .second, .val (.int p2), .val (.int (0 : Int32)), .val (.int (((p2.toUInt32 >>> ((1 : Int32) &&& 31).toUInt32).toInt32) &&& (3 : Int32))), .unset, .unset, .unset, .unset, .unset] []))) (fun t k => XS.ifYes X0.here hx rfl (pc0 := 24) (pc' := 33) rfl (hb hby at_24) rfl ((if0 _ _).trans (feq hc25).2) (by decide) (by decide) k) ?_
      refine own_go (A' := (s₁.setTop (mkF m 36 #[.val (.long q0), .second, .val (.long q1), .second, .val (.int p2), .val (.int (0 : Int32)), .val (.int (((p2.toUInt32 >>> ((1 : Int32) &&& 31).toUInt32).toInt32) &&& (3 : Int32))), .unset, .unset, .unset, .unset, .unset] [(.int (1 : Int32)), (.int (((p2.toUInt32 >>> ((1 : Int32) &&& 31).toUInt32).toInt32) &&& (3 : Int32)))]))) (fun t k => ?_) ?_
      · show Steps p.tables e below (s₁.setTop (mkF m 33 #[.val (.long q0), .second, .val (.long q1), .second, .val (.int p2), .val (.int (0 : Int32)), .val (.int (((p2.toUInt32 >>> ((1 : Int32) &&& 31).toUInt32).toInt32) &&& (3 : Int32))), .unset, .unset, .unset, .unset, .unset] [])) _
        refine XS.iload X0.here hx rfl (hb hby at_33) rfl ?_
        show Steps p.tables e below (s₁.setTop (mkF m 35 #[.val (.long q0), .second, .val (.long q1), .second, .val (.int p2), .val (.int (0 : Int32)), .val (.int (((p2.toUInt32 >>> ((1 : Int32) &&& 31).toUInt32).toInt32) &&& (3 : Int32))), .unset, .unset, .unset, .unset, .unset] [(.int (((p2.toUInt32 >>> ((1 : Int32) &&& 31).toUInt32).toInt32) &&& (3 : Int32)))])) _
        refine XS.iconst X0.here hx rfl (hb hby at_35) ?_
        exact k
      by_cases hc29 : (((p2.toUInt32 >>> ((1 : Int32) &&& 31).toUInt32).toInt32) &&& (3 : Int32)) = (1 : Int32)
      · -- hc29: yes
        refine own_go (A' := (s₁.setTop (mkF m 39 #[.val (.long q0), .second, .val (.long q1), .second, .val (.int p2), .val (.int (0 : Int32)), .val (.int (((p2.toUInt32 >>> ((1 : Int32) &&& 31).toUInt32).toInt32) &&& (3 : Int32))), .unset, .unset, .unset, .unset, .unset] []))) (fun t k => XS.icmpNo X0.here hx rfl (hb hby at_36) rfl (teq hc29).2 k) ?_
        refine own_go (A' := (s₁.setTop (mkF m 66 #[.val (.long q0), .second, .val (.long q1), .second, .val (.int p2), .val (.int (0 : Int32)), .val (.int (((p2.toUInt32 >>> ((1 : Int32) &&& 31).toUInt32).toInt32) &&& (3 : Int32))), .val (.long q0), .second, .unset, .unset, .unset] [(.int (0 : Int32))]))) (fun t k => ?_) ?_
        · show Steps p.tables e below (s₁.setTop (mkF m 39 #[.val (.long q0), .second, .val (.long q1), .second, .val (.int p2), .val (.int (0 : Int32)), .val (.int (((p2.toUInt32 >>> ((1 : Int32) &&& 31).toUInt32).toInt32) &&& (3 : Int32))), .unset, .unset, .unset, .unset, .unset] [])) _
          refine XS.lloadN X0.here hx rfl (hb hby at_39) rfl ?_
          show Steps p.tables e below (s₁.setTop (mkF m 40 #[.val (.long q0), .second, .val (.long q1), .second, .val (.int p2), .val (.int (0 : Int32)), .val (.int (((p2.toUInt32 >>> ((1 : Int32) &&& 31).toUInt32).toInt32) &&& (3 : Int32))), .unset, .unset, .unset, .unset, .unset] [(.long q0)])) _
          refine XS.lstore X0.here hx rfl (hb hby at_40) rfl (l' := #[.val (.long q0), .second, .val (.long q1), .second, .val (.int p2), .val (.int (0 : Int32)), .val (.int (((p2.toUInt32 >>> ((1 : Int32) &&& 31).toUInt32).toInt32) &&& (3 : Int32))), .val (.long q0), .second, .unset, .unset, .unset]) rfl ?_
          show Steps p.tables e below (s₁.setTop (mkF m 42 #[.val (.long q0), .second, .val (.long q1), .second, .val (.int p2), .val (.int (0 : Int32)), .val (.int (((p2.toUInt32 >>> ((1 : Int32) &&& 31).toUInt32).toInt32) &&& (3 : Int32))), .val (.long q0), .second, .unset, .unset, .unset] [])) _
          refine XS.goto X0.here hx rfl (pc0 := 42) (pc' := 64) rfl (hb hby at_42) (by decide) (by decide) ?_
          show Steps p.tables e below (s₁.setTop (mkF m 64 #[.val (.long q0), .second, .val (.long q1), .second, .val (.int p2), .val (.int (0 : Int32)), .val (.int (((p2.toUInt32 >>> ((1 : Int32) &&& 31).toUInt32).toInt32) &&& (3 : Int32))), .val (.long q0), .second, .unset, .unset, .unset] [])) _
          refine XS.iload X0.here hx rfl (hb hby at_64) rfl ?_
          exact k
        refine own_go (A' := (s₁.setTop (mkF m 77 #[.val (.long q0), .second, .val (.long q1), .second, .val (.int p2), .val (.int (0 : Int32)), .val (.int (((p2.toUInt32 >>> ((1 : Int32) &&& 31).toUInt32).toInt32) &&& (3 : Int32))), .val (.long q0), .second, .unset, .unset, .unset] []))) (fun t k => XS.ifYes X0.here hx rfl (pc0 := 66) (pc' := 77) rfl (hb hby at_66) rfl ((if0 _ _).trans (teq (by decide : (0 : Int32) = (0 : Int32))).1) (by decide) (by decide) k) ?_
        obtain ⟨T30, h30, X30, e30, E30, A30, D30, -, st30⟩ := newO X0 hx hZ hown (hw _ (List.mem_of_getElem? (i := 0) rfl)) (hw _ (List.mem_of_getElem? (i := 1) rfl)) (hw _ (List.mem_of_getElem? (i := 2) rfl)) e0 (g := (mkF m 80 #[.val (.long q0), .second, .val (.long q1), .second, .val (.int p2), .val (.int (0 : Int32)), .val (.int (((p2.toUInt32 >>> ((1 : Int32) &&& 31).toUInt32).toInt32) &&& (3 : Int32))), .val (.long q0), .second, .val .null, .unset, .unset] [])) rfl (hb hby at_80) (by decide) (by decide)
        obtain ⟨b30, g30⟩ : ∃ z, z = h0.size := ⟨_, rfl⟩
        have sz_b30 : h0.size ≤ b30 := Nat.le_of_eq g30.symm
        rw [← g30] at A30 D30 st30
        have K30 : Keep h0 h30 [] := (Keep.refl h0 []).ext E30
        have B30 : Ext h0 h30 := own_keep_ext K30
        have F30_min : Fld Z h30 b30 "com/example/lading/lading/core/Occurrence" "min" "J" (.long (0 : Int64)) := D30 (Or.inr (hw _ (List.mem_of_getElem? (i := 10) rfl))) (ty := .long) (by decide)
        have F30_max : Fld Z h30 b30 "com/example/lading/lading/core/Occurrence" "max" "Ljava/lang/Long;" .null := D30 (Or.inr (hw _ (List.mem_of_getElem? (i := 12) rfl))) (ty := (.object "java/lang/Long")) (by decide)
        obtain ⟨_, _, ⟨T31, L31, k31, n31⟩, -, X31, ⟨Lc31, hQ31, l31, y31, z31⟩, st31⟩ := X30.specialBack hx (y := (⟨"com/example/lading/lading/core/Occurrence", "<init>", "(JLjava/lang/Long;)V"⟩ : MethodName)) rfl hown (mvT hZ (hw _ (List.mem_of_getElem? (i := 3) rfl))) (mvT hZ (hw _ (List.mem_of_getElem? (i := 4) rfl))) (mvT hZ (hw _ (List.mem_of_getElem? (i := 5) rfl))) (by decide) (backOf (W := 1) (rm1n l Z a0 hw [] b30 q0  h30 n0 (Nat.le_trans Z0 K30.1) A30 F30_min F30_max (Nat.le_trans Z0 sz_b30)) hZ (hw _ (List.mem_of_getElem? (i := 5) rfl)) (hw _ (List.mem_of_getElem? (i := 2) rfl)) (by decide) (by decide)) (g := (mkF m 87 #[.val (.long q0), .second, .val (.long q1), .second, .val (.int p2), .val (.int (0 : Int32)), .val (.int (((p2.toUInt32 >>> ((1 : Int32) &&& 31).toUInt32).toInt32) &&& (3 : Int32))), .val (.long q0), .second, .val .null, .unset, .unset] [.null, (.long q0), (.ref b30), (.ref b30)])) rfl (by rw [hml]; rfl) (Steps.refl _) (a := b30) (argsL := [(.long q0), .null]) (rest := [(.ref b30)]) (lenOf pd_3 rfl) rfl (by show 2 * 0 + _ ≤ _; exact Nat.le_of_eq rfl) (hb hby at_87) (fun _ _ => ⟨rfl, e30, (by decide : 1 + 0 ≤ _), (by decide : 2 + 0 ≤ _)⟩)
        dsimp only [Pt.U, Pt.locs, Pt.cells, Pt.slots] at X31 l31 y31 z31 st31 hQ31
        subst l31 y31 z31
        obtain ⟨rfl, N31q, K31q, E31q, F31q, G31q⟩ := hQ31
        have N31 := Fr.app N0 N31q
        have K31 : Keep h0 T31.heap [] := K30.trans K31q (allS (Or.inr sz_b30) all0)
        have B31 : Ext h0 T31.heap := own_keep_ext K31
        refine own_go (A' := (T31.setTop (mkF m 94 #[.val (.long q0), .second, .val (.long q1), .second, .val (.int p2), .val (.int (0 : Int32)), .val (.int (((p2.toUInt32 >>> ((1 : Int32) &&& 31).toUInt32).toInt32) &&& (3 : Int32))), .val (.long q0), .second, .val .null, .val (.ref b30), .unset] [(.int (0 : Int32))]))) (fun t k => ?_) ?_
        · show Steps p.tables e below (s₁.setTop (mkF m 77 #[.val (.long q0), .second, .val (.long q1), .second, .val (.int p2), .val (.int (0 : Int32)), .val (.int (((p2.toUInt32 >>> ((1 : Int32) &&& 31).toUInt32).toInt32) &&& (3 : Int32))), .val (.long q0), .second, .unset, .unset, .unset] [])) _
          refine XS.aconstNull X0.here hx rfl (hb hby at_77) ?_
          show Steps p.tables e below (s₁.setTop (mkF m 78 #[.val (.long q0), .second, .val (.long q1), .second, .val (.int p2), .val (.int (0 : Int32)), .val (.int (((p2.toUInt32 >>> ((1 : Int32) &&& 31).toUInt32).toInt32) &&& (3 : Int32))), .val (.long q0), .second, .unset, .unset, .unset] [.null])) _
          refine XS.astore X0.here hx rfl (hb hby at_78) rfl rfl (l' := #[.val (.long q0), .second, .val (.long q1), .second, .val (.int p2), .val (.int (0 : Int32)), .val (.int (((p2.toUInt32 >>> ((1 : Int32) &&& 31).toUInt32).toInt32) &&& (3 : Int32))), .val (.long q0), .second, .val .null, .unset, .unset]) rfl ?_
          show Steps p.tables e below (s₁.setTop (mkF m 80 #[.val (.long q0), .second, .val (.long q1), .second, .val (.int p2), .val (.int (0 : Int32)), .val (.int (((p2.toUInt32 >>> ((1 : Int32) &&& 31).toUInt32).toInt32) &&& (3 : Int32))), .val (.long q0), .second, .val .null, .unset, .unset] [])) _
          refine st30 _ ?_
          show Steps p.tables e below (T30.setTop (mkF m 83 #[.val (.long q0), .second, .val (.long q1), .second, .val (.int p2), .val (.int (0 : Int32)), .val (.int (((p2.toUInt32 >>> ((1 : Int32) &&& 31).toUInt32).toInt32) &&& (3 : Int32))), .val (.long q0), .second, .val .null, .unset, .unset] [(.ref b30)])) _
          refine XS.dup X30.here hx rfl (hb hby at_83) rfl rfl ?_
          show Steps p.tables e below (T30.setTop (mkF m 84 #[.val (.long q0), .second, .val (.long q1), .second, .val (.int p2), .val (.int (0 : Int32)), .val (.int (((p2.toUInt32 >>> ((1 : Int32) &&& 31).toUInt32).toInt32) &&& (3 : Int32))), .val (.long q0), .second, .val .null, .unset, .unset] [(.ref b30), (.ref b30)])) _
          refine XS.lloadN X30.here hx rfl (hb hby at_84) rfl ?_
          show Steps p.tables e below (T30.setTop (mkF m 85 #[.val (.long q0), .second, .val (.long q1), .second, .val (.int p2), .val (.int (0 : Int32)), .val (.int (((p2.toUInt32 >>> ((1 : Int32) &&& 31).toUInt32).toInt32) &&& (3 : Int32))), .val (.long q0), .second, .val .null, .unset, .unset] [(.long q0), (.ref b30), (.ref b30)])) _
          refine XS.aload X30.here hx rfl (hb hby at_85) rfl rfl ?_
          show Steps p.tables e below (T30.setTop (mkF m 87 #[.val (.long q0), .second, .val (.long q1), .second, .val (.int p2), .val (.int (0 : Int32)), .val (.int (((p2.toUInt32 >>> ((1 : Int32) &&& 31).toUInt32).toInt32) &&& (3 : Int32))), .val (.long q0), .second, .val .null, .unset, .unset] [.null, (.long q0), (.ref b30), (.ref b30)])) _
          refine st31.trans ?_
          show Steps p.tables e below (T31.setTop (mkF m 90 #[.val (.long q0), .second, .val (.long q1), .second, .val (.int p2), .val (.int (0 : Int32)), .val (.int (((p2.toUInt32 >>> ((1 : Int32) &&& 31).toUInt32).toInt32) &&& (3 : Int32))), .val (.long q0), .second, .val .null, .unset, .unset] [(.ref b30)])) _
          refine XS.astore X31.here hx rfl (hb hby at_90) rfl rfl (l' := #[.val (.long q0), .second, .val (.long q1), .second, .val (.int p2), .val (.int (0 : Int32)), .val (.int (((p2.toUInt32 >>> ((1 : Int32) &&& 31).toUInt32).toInt32) &&& (3 : Int32))), .val (.long q0), .second, .val .null, .val (.ref b30), .unset]) rfl ?_
          show Steps p.tables e below (T31.setTop (mkF m 92 #[.val (.long q0), .second, .val (.long q1), .second, .val (.int p2), .val (.int (0 : Int32)), .val (.int (((p2.toUInt32 >>> ((1 : Int32) &&& 31).toUInt32).toInt32) &&& (3 : Int32))), .val (.long q0), .second, .val .null, .val (.ref b30), .unset] [])) _
          refine XS.iload X31.here hx rfl (hb hby at_92) rfl ?_
          exact k
        refine own_go (A' := (T31.setTop (mkF m 108 #[.val (.long q0), .second, .val (.long q1), .second, .val (.int p2), .val (.int (0 : Int32)), .val (.int (((p2.toUInt32 >>> ((1 : Int32) &&& 31).toUInt32).toInt32) &&& (3 : Int32))), .val (.long q0), .second, .val .null, .val (.ref b30), .unset] []))) (fun t k => XS.ifYes X31.here hx rfl (pc0 := 94) (pc' := 108) rfl (hb hby at_94) rfl ((if0 _ _).trans (teq (by decide : (0 : Int32) = (0 : Int32))).1) (by decide) (by decide) k) ?_
        obtain ⟨cq32, kq32, q32a, q32b, q32c⟩ := isOf hZ rfl E31q
        obtain ⟨_, _, ⟨T32, L32, k32, n32⟩, -, X32, ⟨Lc32, hQ32, l32, y32, z32⟩, st32⟩ := X31.virtualBack hx (y := (⟨"com/example/lading/lading/core/Occurrence", "isFixed", "()Z"⟩ : MethodName)) (z := (⟨"com/example/lading/lading/core/Occurrence", "isFixed", "()Z"⟩ : MethodName)) hown (mvT hZ (hw _ (List.mem_of_getElem? (i := 13) rfl))) (mvT hZ (hw _ (List.mem_of_getElem? (i := 14) rfl))) (notFace_of_selects (args := #[]) (mvT hZ (hw _ (List.mem_of_getElem? (i := 16) rfl)))) (mvT hZ (hw _ (List.mem_of_getElem? (i := 16) rfl))) (mvT hZ (hw _ (List.mem_of_getElem? (i := 15) rfl))) (by decide) (backOf (W := 0) (rm3n l Z a0 hw [] b30 q0 T31.heap n0 (Nat.le_trans Z0 K31.1) F31q G31q) hZ (hw _ (List.mem_of_getElem? (i := 17) rfl)) (hw _ (List.mem_of_getElem? (i := 2) rfl)) (by decide) (by decide)) q32a q32c (g := (mkF m 113 #[.val (.long q0), .second, .val (.long q1), .second, .val (.int p2), .val (.int (0 : Int32)), .val (.int (((p2.toUInt32 >>> ((1 : Int32) &&& 31).toUInt32).toInt32) &&& (3 : Int32))), .val (.long q0), .second, .val .null, .val (.ref b30), .val (.int (0 : Int32))] [(.ref b30)])) rfl (by rw [hml]; rfl) (Steps.refl _) (argsL := []) (rest := []) (lenOf pd_4 rfl) rfl (by show 2 * 0 + _ ≤ _; exact Nat.le_of_eq rfl) (hb hby at_113) (fun _ _ => ⟨rfl, rfl, (by decide : 1 + 0 ≤ _), (by decide : 2 + 0 ≤ _)⟩)
        dsimp only [Pt.U, Pt.locs, Pt.cells, Pt.slots] at X32 l32 y32 z32 st32 hQ32
        subst l32 y32 z32
        obtain ⟨rfl, N32q, e32⟩ := hQ32
        have N32 := Fr.app N31 N32q
        refine own_go (A' := (T32.setTop (mkF m 118 #[.val (.long q0), .second, .val (.long q1), .second, .val (.int p2), .val (.int (0 : Int32)), .val (.int (((p2.toUInt32 >>> ((1 : Int32) &&& 31).toUInt32).toInt32) &&& (3 : Int32))), .val (.long q0), .second, .val .null, .val (.ref b30), .val (.int (0 : Int32))] [(.int (0 : Int32)), (.int (0 : Int32))]))) (fun t k => ?_) ?_
        · show Steps p.tables e below (T31.setTop (mkF m 108 #[.val (.long q0), .second, .val (.long q1), .second, .val (.int p2), .val (.int (0 : Int32)), .val (.int (((p2.toUInt32 >>> ((1 : Int32) &&& 31).toUInt32).toInt32) &&& (3 : Int32))), .val (.long q0), .second, .val .null, .val (.ref b30), .unset] [])) _
          refine XS.iconst X31.here hx rfl (hb hby at_108) ?_
          show Steps p.tables e below (T31.setTop (mkF m 109 #[.val (.long q0), .second, .val (.long q1), .second, .val (.int p2), .val (.int (0 : Int32)), .val (.int (((p2.toUInt32 >>> ((1 : Int32) &&& 31).toUInt32).toInt32) &&& (3 : Int32))), .val (.long q0), .second, .val .null, .val (.ref b30), .unset] [(.int (0 : Int32))])) _
          refine XS.istore X31.here hx rfl (hb hby at_109) rfl (l' := #[.val (.long q0), .second, .val (.long q1), .second, .val (.int p2), .val (.int (0 : Int32)), .val (.int (((p2.toUInt32 >>> ((1 : Int32) &&& 31).toUInt32).toInt32) &&& (3 : Int32))), .val (.long q0), .second, .val .null, .val (.ref b30), .val (.int (0 : Int32))]) rfl ?_
          show Steps p.tables e below (T31.setTop (mkF m 111 #[.val (.long q0), .second, .val (.long q1), .second, .val (.int p2), .val (.int (0 : Int32)), .val (.int (((p2.toUInt32 >>> ((1 : Int32) &&& 31).toUInt32).toInt32) &&& (3 : Int32))), .val (.long q0), .second, .val .null, .val (.ref b30), .val (.int (0 : Int32))] [])) _
          refine XS.aload X31.here hx rfl (hb hby at_111) rfl rfl ?_
          show Steps p.tables e below (T31.setTop (mkF m 113 #[.val (.long q0), .second, .val (.long q1), .second, .val (.int p2), .val (.int (0 : Int32)), .val (.int (((p2.toUInt32 >>> ((1 : Int32) &&& 31).toUInt32).toInt32) &&& (3 : Int32))), .val (.long q0), .second, .val .null, .val (.ref b30), .val (.int (0 : Int32))] [(.ref b30)])) _
          refine st32.trans ?_
          show Steps p.tables e below (T32.setTop (mkF m 116 #[.val (.long q0), .second, .val (.long q1), .second, .val (.int p2), .val (.int (0 : Int32)), .val (.int (((p2.toUInt32 >>> ((1 : Int32) &&& 31).toUInt32).toInt32) &&& (3 : Int32))), .val (.long q0), .second, .val .null, .val (.ref b30), .val (.int (0 : Int32))] [(.int (0 : Int32))])) _
          refine XS.iload X32.here hx rfl (hb hby at_116) rfl ?_
          exact k
        refine own_go (A' := (T32.setTop (mkF m 121 #[.val (.long q0), .second, .val (.long q1), .second, .val (.int p2), .val (.int (0 : Int32)), .val (.int (((p2.toUInt32 >>> ((1 : Int32) &&& 31).toUInt32).toInt32) &&& (3 : Int32))), .val (.long q0), .second, .val .null, .val (.ref b30), .val (.int (0 : Int32))] []))) (fun t k => XS.icmpNo X32.here hx rfl (hb hby at_118) rfl (teq (by decide : (0 : Int32) = (0 : Int32))).2 k) ?_
        refine own_go (A' := (T32.setTop (mkF m 126 #[.val (.long q0), .second, .val (.long q1), .second, .val (.int p2), .val (.int (0 : Int32)), .val (.int (((p2.toUInt32 >>> ((1 : Int32) &&& 31).toUInt32).toInt32) &&& (3 : Int32))), .val (.long q0), .second, .val .null, .val (.ref b30), .val (.int (0 : Int32))] [(.int (1 : Int32))]))) (fun t k => ?_) ?_
        · show Steps p.tables e below (T32.setTop (mkF m 121 #[.val (.long q0), .second, .val (.long q1), .second, .val (.int p2), .val (.int (0 : Int32)), .val (.int (((p2.toUInt32 >>> ((1 : Int32) &&& 31).toUInt32).toInt32) &&& (3 : Int32))), .val (.long q0), .second, .val .null, .val (.ref b30), .val (.int (0 : Int32))] [])) _
          refine XS.iconst X32.here hx rfl (hb hby at_121) ?_
          show Steps p.tables e below (T32.setTop (mkF m 122 #[.val (.long q0), .second, .val (.long q1), .second, .val (.int p2), .val (.int (0 : Int32)), .val (.int (((p2.toUInt32 >>> ((1 : Int32) &&& 31).toUInt32).toInt32) &&& (3 : Int32))), .val (.long q0), .second, .val .null, .val (.ref b30), .val (.int (0 : Int32))] [(.int (1 : Int32))])) _
          refine XS.goto X32.here hx rfl (pc0 := 122) (pc' := 126) rfl (hb hby at_122) (by decide) (by decide) ?_
          exact k
        obtain ⟨fs, hr, hrun, hended, hW, hsame⟩ := X32.leave (v := some (.int (1 : Int32))) (fun h => by rw [Bd.returns] at h; cases h)
        refine ⟨_, _, ?_, hrun, hended, _, _, rfl, ?_, ⟨_, rfl⟩, hW, hsame.mono (by decide) (by decide)⟩
        · show Steps p.tables e below (T32.setTop (mkF m 126 #[.val (.long q0), .second, .val (.long q1), .second, .val (.int p2), .val (.int (0 : Int32)), .val (.int (((p2.toUInt32 >>> ((1 : Int32) &&& 31).toUInt32).toInt32) &&& (3 : Int32))), .val (.long q0), .second, .val .null, .val (.ref b30), .val (.int (0 : Int32))] [(.int (1 : Int32))])) _
          exact retN X32 hx (t := .boolean) Bd.returns (by simp) (hb hby at_126) hr
        · show Q0 Z q0 q1 p2 wC clC h0 n0 _ T32.heap _
          exact ⟨rfl, N32⟩
      · -- hc29: no
        refine own_go (A' := (s₁.setTop (mkF m 45 #[.val (.long q0), .second, .val (.long q1), .second, .val (.int p2), .val (.int (0 : Int32)), .val (.int (((p2.toUInt32 >>> ((1 : Int32) &&& 31).toUInt32).toInt32) &&& (3 : Int32))), .unset, .unset, .unset, .unset, .unset] []))) (fun t k => XS.icmpYes X0.here hx rfl (pc0 := 36) (pc' := 45) rfl (hb hby at_36) rfl (feq hc29).2 (by decide) (by decide) k) ?_
        refine own_go (A' := (s₁.setTop (mkF m 48 #[.val (.long q0), .second, .val (.long q1), .second, .val (.int p2), .val (.int (0 : Int32)), .val (.int (((p2.toUInt32 >>> ((1 : Int32) &&& 31).toUInt32).toInt32) &&& (3 : Int32))), .unset, .unset, .unset, .unset, .unset] [(.int (2 : Int32)), (.int (((p2.toUInt32 >>> ((1 : Int32) &&& 31).toUInt32).toInt32) &&& (3 : Int32)))]))) (fun t k => ?_) ?_
        · show Steps p.tables e below (s₁.setTop (mkF m 45 #[.val (.long q0), .second, .val (.long q1), .second, .val (.int p2), .val (.int (0 : Int32)), .val (.int (((p2.toUInt32 >>> ((1 : Int32) &&& 31).toUInt32).toInt32) &&& (3 : Int32))), .unset, .unset, .unset, .unset, .unset] [])) _
          refine XS.iload X0.here hx rfl (hb hby at_45) rfl ?_
          show Steps p.tables e below (s₁.setTop (mkF m 47 #[.val (.long q0), .second, .val (.long q1), .second, .val (.int p2), .val (.int (0 : Int32)), .val (.int (((p2.toUInt32 >>> ((1 : Int32) &&& 31).toUInt32).toInt32) &&& (3 : Int32))), .unset, .unset, .unset, .unset, .unset] [(.int (((p2.toUInt32 >>> ((1 : Int32) &&& 31).toUInt32).toInt32) &&& (3 : Int32)))])) _
          refine XS.iconst X0.here hx rfl (hb hby at_47) ?_
          exact k
        by_cases hc33 : (((p2.toUInt32 >>> ((1 : Int32) &&& 31).toUInt32).toInt32) &&& (3 : Int32)) = (2 : Int32)
        · -- hc33: yes
          refine own_go (A' := (s₁.setTop (mkF m 51 #[.val (.long q0), .second, .val (.long q1), .second, .val (.int p2), .val (.int (0 : Int32)), .val (.int (((p2.toUInt32 >>> ((1 : Int32) &&& 31).toUInt32).toInt32) &&& (3 : Int32))), .unset, .unset, .unset, .unset, .unset] []))) (fun t k => XS.icmpNo X0.here hx rfl (hb hby at_48) rfl (teq hc33).2 k) ?_
          refine own_go (A' := (s₁.setTop (mkF m 66 #[.val (.long q0), .second, .val (.long q1), .second, .val (.int p2), .val (.int (0 : Int32)), .val (.int (((p2.toUInt32 >>> ((1 : Int32) &&& 31).toUInt32).toInt32) &&& (3 : Int32))), .val (.long (q0 + (1 : Int64))), .second, .unset, .unset, .unset] [(.int (0 : Int32))]))) (fun t k => ?_) ?_
          · show Steps p.tables e below (s₁.setTop (mkF m 51 #[.val (.long q0), .second, .val (.long q1), .second, .val (.int p2), .val (.int (0 : Int32)), .val (.int (((p2.toUInt32 >>> ((1 : Int32) &&& 31).toUInt32).toInt32) &&& (3 : Int32))), .unset, .unset, .unset, .unset, .unset] [])) _
            refine XS.lloadN X0.here hx rfl (hb hby at_51) rfl ?_
            show Steps p.tables e below (s₁.setTop (mkF m 52 #[.val (.long q0), .second, .val (.long q1), .second, .val (.int p2), .val (.int (0 : Int32)), .val (.int (((p2.toUInt32 >>> ((1 : Int32) &&& 31).toUInt32).toInt32) &&& (3 : Int32))), .unset, .unset, .unset, .unset, .unset] [(.long q0)])) _
            refine XS.lconst X0.here hx rfl (hb hby at_52) ?_
            show Steps p.tables e below (s₁.setTop (mkF m 53 #[.val (.long q0), .second, .val (.long q1), .second, .val (.int p2), .val (.int (0 : Int32)), .val (.int (((p2.toUInt32 >>> ((1 : Int32) &&& 31).toUInt32).toInt32) &&& (3 : Int32))), .unset, .unset, .unset, .unset, .unset] [(.long (1 : Int64)), (.long q0)])) _
            refine XS.ladd X0.here hx rfl (hb hby at_53) rfl ?_
            show Steps p.tables e below (s₁.setTop (mkF m 54 #[.val (.long q0), .second, .val (.long q1), .second, .val (.int p2), .val (.int (0 : Int32)), .val (.int (((p2.toUInt32 >>> ((1 : Int32) &&& 31).toUInt32).toInt32) &&& (3 : Int32))), .unset, .unset, .unset, .unset, .unset] [(.long (q0 + (1 : Int64)))])) _
            refine XS.lstore X0.here hx rfl (hb hby at_54) rfl (l' := #[.val (.long q0), .second, .val (.long q1), .second, .val (.int p2), .val (.int (0 : Int32)), .val (.int (((p2.toUInt32 >>> ((1 : Int32) &&& 31).toUInt32).toInt32) &&& (3 : Int32))), .val (.long (q0 + (1 : Int64))), .second, .unset, .unset, .unset]) rfl ?_
            show Steps p.tables e below (s₁.setTop (mkF m 56 #[.val (.long q0), .second, .val (.long q1), .second, .val (.int p2), .val (.int (0 : Int32)), .val (.int (((p2.toUInt32 >>> ((1 : Int32) &&& 31).toUInt32).toInt32) &&& (3 : Int32))), .val (.long (q0 + (1 : Int64))), .second, .unset, .unset, .unset] [])) _
            refine XS.goto X0.here hx rfl (pc0 := 56) (pc' := 64) rfl (hb hby at_56) (by decide) (by decide) ?_
            show Steps p.tables e below (s₁.setTop (mkF m 64 #[.val (.long q0), .second, .val (.long q1), .second, .val (.int p2), .val (.int (0 : Int32)), .val (.int (((p2.toUInt32 >>> ((1 : Int32) &&& 31).toUInt32).toInt32) &&& (3 : Int32))), .val (.long (q0 + (1 : Int64))), .second, .unset, .unset, .unset] [])) _
            refine XS.iload X0.here hx rfl (hb hby at_64) rfl ?_
            exact k
          refine own_go (A' := (s₁.setTop (mkF m 77 #[.val (.long q0), .second, .val (.long q1), .second, .val (.int p2), .val (.int (0 : Int32)), .val (.int (((p2.toUInt32 >>> ((1 : Int32) &&& 31).toUInt32).toInt32) &&& (3 : Int32))), .val (.long (q0 + (1 : Int64))), .second, .unset, .unset, .unset] []))) (fun t k => XS.ifYes X0.here hx rfl (pc0 := 66) (pc' := 77) rfl (hb hby at_66) rfl ((if0 _ _).trans (teq (by decide : (0 : Int32) = (0 : Int32))).1) (by decide) (by decide) k) ?_
          obtain ⟨T34, h34, X34, e34, E34, A34, D34, -, st34⟩ := newO X0 hx hZ hown (hw _ (List.mem_of_getElem? (i := 0) rfl)) (hw _ (List.mem_of_getElem? (i := 1) rfl)) (hw _ (List.mem_of_getElem? (i := 2) rfl)) e0 (g := (mkF m 80 #[.val (.long q0), .second, .val (.long q1), .second, .val (.int p2), .val (.int (0 : Int32)), .val (.int (((p2.toUInt32 >>> ((1 : Int32) &&& 31).toUInt32).toInt32) &&& (3 : Int32))), .val (.long (q0 + (1 : Int64))), .second, .val .null, .unset, .unset] [])) rfl (hb hby at_80) (by decide) (by decide)
          obtain ⟨b34, g34⟩ : ∃ z, z = h0.size := ⟨_, rfl⟩
          have sz_b34 : h0.size ≤ b34 := Nat.le_of_eq g34.symm
          rw [← g34] at A34 D34 st34
          have K34 : Keep h0 h34 [] := (Keep.refl h0 []).ext E34
          have B34 : Ext h0 h34 := own_keep_ext K34
          have F34_min : Fld Z h34 b34 "com/example/lading/lading/core/Occurrence" "min" "J" (.long (0 : Int64)) := D34 (Or.inr (hw _ (List.mem_of_getElem? (i := 10) rfl))) (ty := .long) (by decide)
          have F34_max : Fld Z h34 b34 "com/example/lading/lading/core/Occurrence" "max" "Ljava/lang/Long;" .null := D34 (Or.inr (hw _ (List.mem_of_getElem? (i := 12) rfl))) (ty := (.object "java/lang/Long")) (by decide)
          obtain ⟨_, _, ⟨T35, L35, k35, n35⟩, -, X35, ⟨Lc35, hQ35, l35, y35, z35⟩, st35⟩ := X34.specialBack hx (y := (⟨"com/example/lading/lading/core/Occurrence", "<init>", "(JLjava/lang/Long;)V"⟩ : MethodName)) rfl hown (mvT hZ (hw _ (List.mem_of_getElem? (i := 3) rfl))) (mvT hZ (hw _ (List.mem_of_getElem? (i := 4) rfl))) (mvT hZ (hw _ (List.mem_of_getElem? (i := 5) rfl))) (by decide) (backOf (W := 1) (rm1n l Z a0 hw [] b34 q0  h34 n0 (Nat.le_trans Z0 K34.1) A34 F34_min F34_max (Nat.le_trans Z0 sz_b34)) hZ (hw _ (List.mem_of_getElem? (i := 5) rfl)) (hw _ (List.mem_of_getElem? (i := 2) rfl)) (by decide) (by decide)) (g := (mkF m 87 #[.val (.long q0), .second, .val (.long q1), .second, .val (.int p2), .val (.int (0 : Int32)), .val (.int (((p2.toUInt32 >>> ((1 : Int32) &&& 31).toUInt32).toInt32) &&& (3 : Int32))), .val (.long (q0 + (1 : Int64))), .second, .val .null, .unset, .unset] [.null, (.long q0), (.ref b34), (.ref b34)])) rfl (by rw [hml]; rfl) (Steps.refl _) (a := b34) (argsL := [(.long q0), .null]) (rest := [(.ref b34)]) (lenOf pd_3 rfl) rfl (by show 2 * 0 + _ ≤ _; exact Nat.le_of_eq rfl) (hb hby at_87) (fun _ _ => ⟨rfl, e34, (by decide : 1 + 0 ≤ _), (by decide : 2 + 0 ≤ _)⟩)
          dsimp only [Pt.U, Pt.locs, Pt.cells, Pt.slots] at X35 l35 y35 z35 st35 hQ35
          subst l35 y35 z35
          obtain ⟨rfl, N35q, K35q, E35q, F35q, G35q⟩ := hQ35
          have N35 := Fr.app N0 N35q
          have K35 : Keep h0 T35.heap [] := K34.trans K35q (allS (Or.inr sz_b34) all0)
          have B35 : Ext h0 T35.heap := own_keep_ext K35
          refine own_go (A' := (T35.setTop (mkF m 94 #[.val (.long q0), .second, .val (.long q1), .second, .val (.int p2), .val (.int (0 : Int32)), .val (.int (((p2.toUInt32 >>> ((1 : Int32) &&& 31).toUInt32).toInt32) &&& (3 : Int32))), .val (.long (q0 + (1 : Int64))), .second, .val .null, .val (.ref b34), .unset] [(.int (0 : Int32))]))) (fun t k => ?_) ?_
          · show Steps p.tables e below (s₁.setTop (mkF m 77 #[.val (.long q0), .second, .val (.long q1), .second, .val (.int p2), .val (.int (0 : Int32)), .val (.int (((p2.toUInt32 >>> ((1 : Int32) &&& 31).toUInt32).toInt32) &&& (3 : Int32))), .val (.long (q0 + (1 : Int64))), .second, .unset, .unset, .unset] [])) _
            refine XS.aconstNull X0.here hx rfl (hb hby at_77) ?_
            show Steps p.tables e below (s₁.setTop (mkF m 78 #[.val (.long q0), .second, .val (.long q1), .second, .val (.int p2), .val (.int (0 : Int32)), .val (.int (((p2.toUInt32 >>> ((1 : Int32) &&& 31).toUInt32).toInt32) &&& (3 : Int32))), .val (.long (q0 + (1 : Int64))), .second, .unset, .unset, .unset] [.null])) _
            refine XS.astore X0.here hx rfl (hb hby at_78) rfl rfl (l' := #[.val (.long q0), .second, .val (.long q1), .second, .val (.int p2), .val (.int (0 : Int32)), .val (.int (((p2.toUInt32 >>> ((1 : Int32) &&& 31).toUInt32).toInt32) &&& (3 : Int32))), .val (.long (q0 + (1 : Int64))), .second, .val .null, .unset, .unset]) rfl ?_
            show Steps p.tables e below (s₁.setTop (mkF m 80 #[.val (.long q0), .second, .val (.long q1), .second, .val (.int p2), .val (.int (0 : Int32)), .val (.int (((p2.toUInt32 >>> ((1 : Int32) &&& 31).toUInt32).toInt32) &&& (3 : Int32))), .val (.long (q0 + (1 : Int64))), .second, .val .null, .unset, .unset] [])) _
            refine st34 _ ?_
            show Steps p.tables e below (T34.setTop (mkF m 83 #[.val (.long q0), .second, .val (.long q1), .second, .val (.int p2), .val (.int (0 : Int32)), .val (.int (((p2.toUInt32 >>> ((1 : Int32) &&& 31).toUInt32).toInt32) &&& (3 : Int32))), .val (.long (q0 + (1 : Int64))), .second, .val .null, .unset, .unset] [(.ref b34)])) _
            refine XS.dup X34.here hx rfl (hb hby at_83) rfl rfl ?_
            show Steps p.tables e below (T34.setTop (mkF m 84 #[.val (.long q0), .second, .val (.long q1), .second, .val (.int p2), .val (.int (0 : Int32)), .val (.int (((p2.toUInt32 >>> ((1 : Int32) &&& 31).toUInt32).toInt32) &&& (3 : Int32))), .val (.long (q0 + (1 : Int64))), .second, .val .null, .unset, .unset] [(.ref b34), (.ref b34)])) _
            refine XS.lloadN X34.here hx rfl (hb hby at_84) rfl ?_
            show Steps p.tables e below (T34.setTop (mkF m 85 #[.val (.long q0), .second, .val (.long q1), .second, .val (.int p2), .val (.int (0 : Int32)), .val (.int (((p2.toUInt32 >>> ((1 : Int32) &&& 31).toUInt32).toInt32) &&& (3 : Int32))), .val (.long (q0 + (1 : Int64))), .second, .val .null, .unset, .unset] [(.long q0), (.ref b34), (.ref b34)])) _
            refine XS.aload X34.here hx rfl (hb hby at_85) rfl rfl ?_
            show Steps p.tables e below (T34.setTop (mkF m 87 #[.val (.long q0), .second, .val (.long q1), .second, .val (.int p2), .val (.int (0 : Int32)), .val (.int (((p2.toUInt32 >>> ((1 : Int32) &&& 31).toUInt32).toInt32) &&& (3 : Int32))), .val (.long (q0 + (1 : Int64))), .second, .val .null, .unset, .unset] [.null, (.long q0), (.ref b34), (.ref b34)])) _
            refine st35.trans ?_
            show Steps p.tables e below (T35.setTop (mkF m 90 #[.val (.long q0), .second, .val (.long q1), .second, .val (.int p2), .val (.int (0 : Int32)), .val (.int (((p2.toUInt32 >>> ((1 : Int32) &&& 31).toUInt32).toInt32) &&& (3 : Int32))), .val (.long (q0 + (1 : Int64))), .second, .val .null, .unset, .unset] [(.ref b34)])) _
            refine XS.astore X35.here hx rfl (hb hby at_90) rfl rfl (l' := #[.val (.long q0), .second, .val (.long q1), .second, .val (.int p2), .val (.int (0 : Int32)), .val (.int (((p2.toUInt32 >>> ((1 : Int32) &&& 31).toUInt32).toInt32) &&& (3 : Int32))), .val (.long (q0 + (1 : Int64))), .second, .val .null, .val (.ref b34), .unset]) rfl ?_
            show Steps p.tables e below (T35.setTop (mkF m 92 #[.val (.long q0), .second, .val (.long q1), .second, .val (.int p2), .val (.int (0 : Int32)), .val (.int (((p2.toUInt32 >>> ((1 : Int32) &&& 31).toUInt32).toInt32) &&& (3 : Int32))), .val (.long (q0 + (1 : Int64))), .second, .val .null, .val (.ref b34), .unset] [])) _
            refine XS.iload X35.here hx rfl (hb hby at_92) rfl ?_
            exact k
          refine own_go (A' := (T35.setTop (mkF m 108 #[.val (.long q0), .second, .val (.long q1), .second, .val (.int p2), .val (.int (0 : Int32)), .val (.int (((p2.toUInt32 >>> ((1 : Int32) &&& 31).toUInt32).toInt32) &&& (3 : Int32))), .val (.long (q0 + (1 : Int64))), .second, .val .null, .val (.ref b34), .unset] []))) (fun t k => XS.ifYes X35.here hx rfl (pc0 := 94) (pc' := 108) rfl (hb hby at_94) rfl ((if0 _ _).trans (teq (by decide : (0 : Int32) = (0 : Int32))).1) (by decide) (by decide) k) ?_
          obtain ⟨cq36, kq36, q36a, q36b, q36c⟩ := isOf hZ rfl E35q
          obtain ⟨_, _, ⟨T36, L36, k36, n36⟩, -, X36, ⟨Lc36, hQ36, l36, y36, z36⟩, st36⟩ := X35.virtualBack hx (y := (⟨"com/example/lading/lading/core/Occurrence", "isFixed", "()Z"⟩ : MethodName)) (z := (⟨"com/example/lading/lading/core/Occurrence", "isFixed", "()Z"⟩ : MethodName)) hown (mvT hZ (hw _ (List.mem_of_getElem? (i := 13) rfl))) (mvT hZ (hw _ (List.mem_of_getElem? (i := 14) rfl))) (notFace_of_selects (args := #[]) (mvT hZ (hw _ (List.mem_of_getElem? (i := 16) rfl)))) (mvT hZ (hw _ (List.mem_of_getElem? (i := 16) rfl))) (mvT hZ (hw _ (List.mem_of_getElem? (i := 15) rfl))) (by decide) (backOf (W := 0) (rm3n l Z a0 hw [] b34 q0 T35.heap n0 (Nat.le_trans Z0 K35.1) F35q G35q) hZ (hw _ (List.mem_of_getElem? (i := 17) rfl)) (hw _ (List.mem_of_getElem? (i := 2) rfl)) (by decide) (by decide)) q36a q36c (g := (mkF m 113 #[.val (.long q0), .second, .val (.long q1), .second, .val (.int p2), .val (.int (0 : Int32)), .val (.int (((p2.toUInt32 >>> ((1 : Int32) &&& 31).toUInt32).toInt32) &&& (3 : Int32))), .val (.long (q0 + (1 : Int64))), .second, .val .null, .val (.ref b34), .val (.int (0 : Int32))] [(.ref b34)])) rfl (by rw [hml]; rfl) (Steps.refl _) (argsL := []) (rest := []) (lenOf pd_4 rfl) rfl (by show 2 * 0 + _ ≤ _; exact Nat.le_of_eq rfl) (hb hby at_113) (fun _ _ => ⟨rfl, rfl, (by decide : 1 + 0 ≤ _), (by decide : 2 + 0 ≤ _)⟩)
          dsimp only [Pt.U, Pt.locs, Pt.cells, Pt.slots] at X36 l36 y36 z36 st36 hQ36
          subst l36 y36 z36
          obtain ⟨rfl, N36q, e36⟩ := hQ36
          have N36 := Fr.app N35 N36q
          refine own_go (A' := (T36.setTop (mkF m 118 #[.val (.long q0), .second, .val (.long q1), .second, .val (.int p2), .val (.int (0 : Int32)), .val (.int (((p2.toUInt32 >>> ((1 : Int32) &&& 31).toUInt32).toInt32) &&& (3 : Int32))), .val (.long (q0 + (1 : Int64))), .second, .val .null, .val (.ref b34), .val (.int (0 : Int32))] [(.int (0 : Int32)), (.int (0 : Int32))]))) (fun t k => ?_) ?_
          · show Steps p.tables e below (T35.setTop (mkF m 108 #[.val (.long q0), .second, .val (.long q1), .second, .val (.int p2), .val (.int (0 : Int32)), .val (.int (((p2.toUInt32 >>> ((1 : Int32) &&& 31).toUInt32).toInt32) &&& (3 : Int32))), .val (.long (q0 + (1 : Int64))), .second, .val .null, .val (.ref b34), .unset] [])) _
            refine XS.iconst X35.here hx rfl (hb hby at_108) ?_
            show Steps p.tables e below (T35.setTop (mkF m 109 #[.val (.long q0), .second, .val (.long q1), .second, .val (.int p2), .val (.int (0 : Int32)), .val (.int (((p2.toUInt32 >>> ((1 : Int32) &&& 31).toUInt32).toInt32) &&& (3 : Int32))), .val (.long (q0 + (1 : Int64))), .second, .val .null, .val (.ref b34), .unset] [(.int (0 : Int32))])) _
            refine XS.istore X35.here hx rfl (hb hby at_109) rfl (l' := #[.val (.long q0), .second, .val (.long q1), .second, .val (.int p2), .val (.int (0 : Int32)), .val (.int (((p2.toUInt32 >>> ((1 : Int32) &&& 31).toUInt32).toInt32) &&& (3 : Int32))), .val (.long (q0 + (1 : Int64))), .second, .val .null, .val (.ref b34), .val (.int (0 : Int32))]) rfl ?_
            show Steps p.tables e below (T35.setTop (mkF m 111 #[.val (.long q0), .second, .val (.long q1), .second, .val (.int p2), .val (.int (0 : Int32)), .val (.int (((p2.toUInt32 >>> ((1 : Int32) &&& 31).toUInt32).toInt32) &&& (3 : Int32))), .val (.long (q0 + (1 : Int64))), .second, .val .null, .val (.ref b34), .val (.int (0 : Int32))] [])) _
            refine XS.aload X35.here hx rfl (hb hby at_111) rfl rfl ?_
            show Steps p.tables e below (T35.setTop (mkF m 113 #[.val (.long q0), .second, .val (.long q1), .second, .val (.int p2), .val (.int (0 : Int32)), .val (.int (((p2.toUInt32 >>> ((1 : Int32) &&& 31).toUInt32).toInt32) &&& (3 : Int32))), .val (.long (q0 + (1 : Int64))), .second, .val .null, .val (.ref b34), .val (.int (0 : Int32))] [(.ref b34)])) _
            refine st36.trans ?_
            show Steps p.tables e below (T36.setTop (mkF m 116 #[.val (.long q0), .second, .val (.long q1), .second, .val (.int p2), .val (.int (0 : Int32)), .val (.int (((p2.toUInt32 >>> ((1 : Int32) &&& 31).toUInt32).toInt32) &&& (3 : Int32))), .val (.long (q0 + (1 : Int64))), .second, .val .null, .val (.ref b34), .val (.int (0 : Int32))] [(.int (0 : Int32))])) _
            refine XS.iload X36.here hx rfl (hb hby at_116) rfl ?_
            exact k
          refine own_go (A' := (T36.setTop (mkF m 121 #[.val (.long q0), .second, .val (.long q1), .second, .val (.int p2), .val (.int (0 : Int32)), .val (.int (((p2.toUInt32 >>> ((1 : Int32) &&& 31).toUInt32).toInt32) &&& (3 : Int32))), .val (.long (q0 + (1 : Int64))), .second, .val .null, .val (.ref b34), .val (.int (0 : Int32))] []))) (fun t k => XS.icmpNo X36.here hx rfl (hb hby at_118) rfl (teq (by decide : (0 : Int32) = (0 : Int32))).2 k) ?_
          refine own_go (A' := (T36.setTop (mkF m 126 #[.val (.long q0), .second, .val (.long q1), .second, .val (.int p2), .val (.int (0 : Int32)), .val (.int (((p2.toUInt32 >>> ((1 : Int32) &&& 31).toUInt32).toInt32) &&& (3 : Int32))), .val (.long (q0 + (1 : Int64))), .second, .val .null, .val (.ref b34), .val (.int (0 : Int32))] [(.int (1 : Int32))]))) (fun t k => ?_) ?_
          · show Steps p.tables e below (T36.setTop (mkF m 121 #[.val (.long q0), .second, .val (.long q1), .second, .val (.int p2), .val (.int (0 : Int32)), .val (.int (((p2.toUInt32 >>> ((1 : Int32) &&& 31).toUInt32).toInt32) &&& (3 : Int32))), .val (.long (q0 + (1 : Int64))), .second, .val .null, .val (.ref b34), .val (.int (0 : Int32))] [])) _
            refine XS.iconst X36.here hx rfl (hb hby at_121) ?_
            show Steps p.tables e below (T36.setTop (mkF m 122 #[.val (.long q0), .second, .val (.long q1), .second, .val (.int p2), .val (.int (0 : Int32)), .val (.int (((p2.toUInt32 >>> ((1 : Int32) &&& 31).toUInt32).toInt32) &&& (3 : Int32))), .val (.long (q0 + (1 : Int64))), .second, .val .null, .val (.ref b34), .val (.int (0 : Int32))] [(.int (1 : Int32))])) _
            refine XS.goto X36.here hx rfl (pc0 := 122) (pc' := 126) rfl (hb hby at_122) (by decide) (by decide) ?_
            exact k
          obtain ⟨fs, hr, hrun, hended, hW, hsame⟩ := X36.leave (v := some (.int (1 : Int32))) (fun h => by rw [Bd.returns] at h; cases h)
          refine ⟨_, _, ?_, hrun, hended, _, _, rfl, ?_, ⟨_, rfl⟩, hW, hsame.mono (by decide) (by decide)⟩
          · show Steps p.tables e below (T36.setTop (mkF m 126 #[.val (.long q0), .second, .val (.long q1), .second, .val (.int p2), .val (.int (0 : Int32)), .val (.int (((p2.toUInt32 >>> ((1 : Int32) &&& 31).toUInt32).toInt32) &&& (3 : Int32))), .val (.long (q0 + (1 : Int64))), .second, .val .null, .val (.ref b34), .val (.int (0 : Int32))] [(.int (1 : Int32))])) _
            exact retN X36 hx (t := .boolean) Bd.returns (by simp) (hb hby at_126) hr
          · show Q0 Z q0 q1 p2 wC clC h0 n0 _ T36.heap _
            exact ⟨rfl, N36⟩
        · -- hc33: no
          refine own_go (A' := (s₁.setTop (mkF m 59 #[.val (.long q0), .second, .val (.long q1), .second, .val (.int p2), .val (.int (0 : Int32)), .val (.int (((p2.toUInt32 >>> ((1 : Int32) &&& 31).toUInt32).toInt32) &&& (3 : Int32))), .unset, .unset, .unset, .unset, .unset] []))) (fun t k => XS.icmpYes X0.here hx rfl (pc0 := 48) (pc' := 59) rfl (hb hby at_48) rfl (feq hc33).2 (by decide) (by decide) k) ?_
          refine own_go (A' := (s₁.setTop (mkF m 66 #[.val (.long q0), .second, .val (.long q1), .second, .val (.int p2), .val (.int (0 : Int32)), .val (.int (((p2.toUInt32 >>> ((1 : Int32) &&& 31).toUInt32).toInt32) &&& (3 : Int32))), .val (.long (q0 - (1 : Int64))), .second, .unset, .unset, .unset] [(.int (0 : Int32))]))) (fun t k => ?_) ?_
          · show Steps p.tables e below (s₁.setTop (mkF m 59 #[.val (.long q0), .second, .val (.long q1), .second, .val (.int p2), .val (.int (0 : Int32)), .val (.int (((p2.toUInt32 >>> ((1 : Int32) &&& 31).toUInt32).toInt32) &&& (3 : Int32))), .unset, .unset, .unset, .unset, .unset] [])) _
            refine XS.lloadN X0.here hx rfl (hb hby at_59) rfl ?_
            show Steps p.tables e below (s₁.setTop (mkF m 60 #[.val (.long q0), .second, .val (.long q1), .second, .val (.int p2), .val (.int (0 : Int32)), .val (.int (((p2.toUInt32 >>> ((1 : Int32) &&& 31).toUInt32).toInt32) &&& (3 : Int32))), .unset, .unset, .unset, .unset, .unset] [(.long q0)])) _
            refine XS.lconst X0.here hx rfl (hb hby at_60) ?_
            show Steps p.tables e below (s₁.setTop (mkF m 61 #[.val (.long q0), .second, .val (.long q1), .second, .val (.int p2), .val (.int (0 : Int32)), .val (.int (((p2.toUInt32 >>> ((1 : Int32) &&& 31).toUInt32).toInt32) &&& (3 : Int32))), .unset, .unset, .unset, .unset, .unset] [(.long (1 : Int64)), (.long q0)])) _
            refine XS.lsub X0.here hx rfl (hb hby at_61) rfl ?_
            show Steps p.tables e below (s₁.setTop (mkF m 62 #[.val (.long q0), .second, .val (.long q1), .second, .val (.int p2), .val (.int (0 : Int32)), .val (.int (((p2.toUInt32 >>> ((1 : Int32) &&& 31).toUInt32).toInt32) &&& (3 : Int32))), .unset, .unset, .unset, .unset, .unset] [(.long (q0 - (1 : Int64)))])) _
            refine XS.lstore X0.here hx rfl (hb hby at_62) rfl (l' := #[.val (.long q0), .second, .val (.long q1), .second, .val (.int p2), .val (.int (0 : Int32)), .val (.int (((p2.toUInt32 >>> ((1 : Int32) &&& 31).toUInt32).toInt32) &&& (3 : Int32))), .val (.long (q0 - (1 : Int64))), .second, .unset, .unset, .unset]) rfl ?_
            show Steps p.tables e below (s₁.setTop (mkF m 64 #[.val (.long q0), .second, .val (.long q1), .second, .val (.int p2), .val (.int (0 : Int32)), .val (.int (((p2.toUInt32 >>> ((1 : Int32) &&& 31).toUInt32).toInt32) &&& (3 : Int32))), .val (.long (q0 - (1 : Int64))), .second, .unset, .unset, .unset] [])) _
            refine XS.iload X0.here hx rfl (hb hby at_64) rfl ?_
            exact k
          refine own_go (A' := (s₁.setTop (mkF m 77 #[.val (.long q0), .second, .val (.long q1), .second, .val (.int p2), .val (.int (0 : Int32)), .val (.int (((p2.toUInt32 >>> ((1 : Int32) &&& 31).toUInt32).toInt32) &&& (3 : Int32))), .val (.long (q0 - (1 : Int64))), .second, .unset, .unset, .unset] []))) (fun t k => XS.ifYes X0.here hx rfl (pc0 := 66) (pc' := 77) rfl (hb hby at_66) rfl ((if0 _ _).trans (teq (by decide : (0 : Int32) = (0 : Int32))).1) (by decide) (by decide) k) ?_
          obtain ⟨T37, h37, X37, e37, E37, A37, D37, -, st37⟩ := newO X0 hx hZ hown (hw _ (List.mem_of_getElem? (i := 0) rfl)) (hw _ (List.mem_of_getElem? (i := 1) rfl)) (hw _ (List.mem_of_getElem? (i := 2) rfl)) e0 (g := (mkF m 80 #[.val (.long q0), .second, .val (.long q1), .second, .val (.int p2), .val (.int (0 : Int32)), .val (.int (((p2.toUInt32 >>> ((1 : Int32) &&& 31).toUInt32).toInt32) &&& (3 : Int32))), .val (.long (q0 - (1 : Int64))), .second, .val .null, .unset, .unset] [])) rfl (hb hby at_80) (by decide) (by decide)
          obtain ⟨b37, g37⟩ : ∃ z, z = h0.size := ⟨_, rfl⟩
          have sz_b37 : h0.size ≤ b37 := Nat.le_of_eq g37.symm
          rw [← g37] at A37 D37 st37
          have K37 : Keep h0 h37 [] := (Keep.refl h0 []).ext E37
          have B37 : Ext h0 h37 := own_keep_ext K37
          have F37_min : Fld Z h37 b37 "com/example/lading/lading/core/Occurrence" "min" "J" (.long (0 : Int64)) := D37 (Or.inr (hw _ (List.mem_of_getElem? (i := 10) rfl))) (ty := .long) (by decide)
          have F37_max : Fld Z h37 b37 "com/example/lading/lading/core/Occurrence" "max" "Ljava/lang/Long;" .null := D37 (Or.inr (hw _ (List.mem_of_getElem? (i := 12) rfl))) (ty := (.object "java/lang/Long")) (by decide)
          obtain ⟨_, _, ⟨T38, L38, k38, n38⟩, -, X38, ⟨Lc38, hQ38, l38, y38, z38⟩, st38⟩ := X37.specialBack hx (y := (⟨"com/example/lading/lading/core/Occurrence", "<init>", "(JLjava/lang/Long;)V"⟩ : MethodName)) rfl hown (mvT hZ (hw _ (List.mem_of_getElem? (i := 3) rfl))) (mvT hZ (hw _ (List.mem_of_getElem? (i := 4) rfl))) (mvT hZ (hw _ (List.mem_of_getElem? (i := 5) rfl))) (by decide) (backOf (W := 1) (rm1n l Z a0 hw [] b37 q0  h37 n0 (Nat.le_trans Z0 K37.1) A37 F37_min F37_max (Nat.le_trans Z0 sz_b37)) hZ (hw _ (List.mem_of_getElem? (i := 5) rfl)) (hw _ (List.mem_of_getElem? (i := 2) rfl)) (by decide) (by decide)) (g := (mkF m 87 #[.val (.long q0), .second, .val (.long q1), .second, .val (.int p2), .val (.int (0 : Int32)), .val (.int (((p2.toUInt32 >>> ((1 : Int32) &&& 31).toUInt32).toInt32) &&& (3 : Int32))), .val (.long (q0 - (1 : Int64))), .second, .val .null, .unset, .unset] [.null, (.long q0), (.ref b37), (.ref b37)])) rfl (by rw [hml]; rfl) (Steps.refl _) (a := b37) (argsL := [(.long q0), .null]) (rest := [(.ref b37)]) (lenOf pd_3 rfl) rfl (by show 2 * 0 + _ ≤ _; exact Nat.le_of_eq rfl) (hb hby at_87) (fun _ _ => ⟨rfl, e37, (by decide : 1 + 0 ≤ _), (by decide : 2 + 0 ≤ _)⟩)
          dsimp only [Pt.U, Pt.locs, Pt.cells, Pt.slots] at X38 l38 y38 z38 st38 hQ38
          subst l38 y38 z38
          obtain ⟨rfl, N38q, K38q, E38q, F38q, G38q⟩ := hQ38
          have N38 := Fr.app N0 N38q
          have K38 : Keep h0 T38.heap [] := K37.trans K38q (allS (Or.inr sz_b37) all0)
          have B38 : Ext h0 T38.heap := own_keep_ext K38
          refine own_go (A' := (T38.setTop (mkF m 94 #[.val (.long q0), .second, .val (.long q1), .second, .val (.int p2), .val (.int (0 : Int32)), .val (.int (((p2.toUInt32 >>> ((1 : Int32) &&& 31).toUInt32).toInt32) &&& (3 : Int32))), .val (.long (q0 - (1 : Int64))), .second, .val .null, .val (.ref b37), .unset] [(.int (0 : Int32))]))) (fun t k => ?_) ?_
          · show Steps p.tables e below (s₁.setTop (mkF m 77 #[.val (.long q0), .second, .val (.long q1), .second, .val (.int p2), .val (.int (0 : Int32)), .val (.int (((p2.toUInt32 >>> ((1 : Int32) &&& 31).toUInt32).toInt32) &&& (3 : Int32))), .val (.long (q0 - (1 : Int64))), .second, .unset, .unset, .unset] [])) _
            refine XS.aconstNull X0.here hx rfl (hb hby at_77) ?_
            show Steps p.tables e below (s₁.setTop (mkF m 78 #[.val (.long q0), .second, .val (.long q1), .second, .val (.int p2), .val (.int (0 : Int32)), .val (.int (((p2.toUInt32 >>> ((1 : Int32) &&& 31).toUInt32).toInt32) &&& (3 : Int32))), .val (.long (q0 - (1 : Int64))), .second, .unset, .unset, .unset] [.null])) _
            refine XS.astore X0.here hx rfl (hb hby at_78) rfl rfl (l' := #[.val (.long q0), .second, .val (.long q1), .second, .val (.int p2), .val (.int (0 : Int32)), .val (.int (((p2.toUInt32 >>> ((1 : Int32) &&& 31).toUInt32).toInt32) &&& (3 : Int32))), .val (.long (q0 - (1 : Int64))), .second, .val .null, .unset, .unset]) rfl ?_
            show Steps p.tables e below (s₁.setTop (mkF m 80 #[.val (.long q0), .second, .val (.long q1), .second, .val (.int p2), .val (.int (0 : Int32)), .val (.int (((p2.toUInt32 >>> ((1 : Int32) &&& 31).toUInt32).toInt32) &&& (3 : Int32))), .val (.long (q0 - (1 : Int64))), .second, .val .null, .unset, .unset] [])) _
            refine st37 _ ?_
            show Steps p.tables e below (T37.setTop (mkF m 83 #[.val (.long q0), .second, .val (.long q1), .second, .val (.int p2), .val (.int (0 : Int32)), .val (.int (((p2.toUInt32 >>> ((1 : Int32) &&& 31).toUInt32).toInt32) &&& (3 : Int32))), .val (.long (q0 - (1 : Int64))), .second, .val .null, .unset, .unset] [(.ref b37)])) _
            refine XS.dup X37.here hx rfl (hb hby at_83) rfl rfl ?_
            show Steps p.tables e below (T37.setTop (mkF m 84 #[.val (.long q0), .second, .val (.long q1), .second, .val (.int p2), .val (.int (0 : Int32)), .val (.int (((p2.toUInt32 >>> ((1 : Int32) &&& 31).toUInt32).toInt32) &&& (3 : Int32))), .val (.long (q0 - (1 : Int64))), .second, .val .null, .unset, .unset] [(.ref b37), (.ref b37)])) _
            refine XS.lloadN X37.here hx rfl (hb hby at_84) rfl ?_
            show Steps p.tables e below (T37.setTop (mkF m 85 #[.val (.long q0), .second, .val (.long q1), .second, .val (.int p2), .val (.int (0 : Int32)), .val (.int (((p2.toUInt32 >>> ((1 : Int32) &&& 31).toUInt32).toInt32) &&& (3 : Int32))), .val (.long (q0 - (1 : Int64))), .second, .val .null, .unset, .unset] [(.long q0), (.ref b37), (.ref b37)])) _
            refine XS.aload X37.here hx rfl (hb hby at_85) rfl rfl ?_
            show Steps p.tables e below (T37.setTop (mkF m 87 #[.val (.long q0), .second, .val (.long q1), .second, .val (.int p2), .val (.int (0 : Int32)), .val (.int (((p2.toUInt32 >>> ((1 : Int32) &&& 31).toUInt32).toInt32) &&& (3 : Int32))), .val (.long (q0 - (1 : Int64))), .second, .val .null, .unset, .unset] [.null, (.long q0), (.ref b37), (.ref b37)])) _
            refine st38.trans ?_
            show Steps p.tables e below (T38.setTop (mkF m 90 #[.val (.long q0), .second, .val (.long q1), .second, .val (.int p2), .val (.int (0 : Int32)), .val (.int (((p2.toUInt32 >>> ((1 : Int32) &&& 31).toUInt32).toInt32) &&& (3 : Int32))), .val (.long (q0 - (1 : Int64))), .second, .val .null, .unset, .unset] [(.ref b37)])) _
            refine XS.astore X38.here hx rfl (hb hby at_90) rfl rfl (l' := #[.val (.long q0), .second, .val (.long q1), .second, .val (.int p2), .val (.int (0 : Int32)), .val (.int (((p2.toUInt32 >>> ((1 : Int32) &&& 31).toUInt32).toInt32) &&& (3 : Int32))), .val (.long (q0 - (1 : Int64))), .second, .val .null, .val (.ref b37), .unset]) rfl ?_
            show Steps p.tables e below (T38.setTop (mkF m 92 #[.val (.long q0), .second, .val (.long q1), .second, .val (.int p2), .val (.int (0 : Int32)), .val (.int (((p2.toUInt32 >>> ((1 : Int32) &&& 31).toUInt32).toInt32) &&& (3 : Int32))), .val (.long (q0 - (1 : Int64))), .second, .val .null, .val (.ref b37), .unset] [])) _
            refine XS.iload X38.here hx rfl (hb hby at_92) rfl ?_
            exact k
          refine own_go (A' := (T38.setTop (mkF m 108 #[.val (.long q0), .second, .val (.long q1), .second, .val (.int p2), .val (.int (0 : Int32)), .val (.int (((p2.toUInt32 >>> ((1 : Int32) &&& 31).toUInt32).toInt32) &&& (3 : Int32))), .val (.long (q0 - (1 : Int64))), .second, .val .null, .val (.ref b37), .unset] []))) (fun t k => XS.ifYes X38.here hx rfl (pc0 := 94) (pc' := 108) rfl (hb hby at_94) rfl ((if0 _ _).trans (teq (by decide : (0 : Int32) = (0 : Int32))).1) (by decide) (by decide) k) ?_
          obtain ⟨cq39, kq39, q39a, q39b, q39c⟩ := isOf hZ rfl E38q
          obtain ⟨_, _, ⟨T39, L39, k39, n39⟩, -, X39, ⟨Lc39, hQ39, l39, y39, z39⟩, st39⟩ := X38.virtualBack hx (y := (⟨"com/example/lading/lading/core/Occurrence", "isFixed", "()Z"⟩ : MethodName)) (z := (⟨"com/example/lading/lading/core/Occurrence", "isFixed", "()Z"⟩ : MethodName)) hown (mvT hZ (hw _ (List.mem_of_getElem? (i := 13) rfl))) (mvT hZ (hw _ (List.mem_of_getElem? (i := 14) rfl))) (notFace_of_selects (args := #[]) (mvT hZ (hw _ (List.mem_of_getElem? (i := 16) rfl)))) (mvT hZ (hw _ (List.mem_of_getElem? (i := 16) rfl))) (mvT hZ (hw _ (List.mem_of_getElem? (i := 15) rfl))) (by decide) (backOf (W := 0) (rm3n l Z a0 hw [] b37 q0 T38.heap n0 (Nat.le_trans Z0 K38.1) F38q G38q) hZ (hw _ (List.mem_of_getElem? (i := 17) rfl)) (hw _ (List.mem_of_getElem? (i := 2) rfl)) (by decide) (by decide)) q39a q39c (g := (mkF m 113 #[.val (.long q0), .second, .val (.long q1), .second, .val (.int p2), .val (.int (0 : Int32)), .val (.int (((p2.toUInt32 >>> ((1 : Int32) &&& 31).toUInt32).toInt32) &&& (3 : Int32))), .val (.long (q0 - (1 : Int64))), .second, .val .null, .val (.ref b37), .val (.int (0 : Int32))] [(.ref b37)])) rfl (by rw [hml]; rfl) (Steps.refl _) (argsL := []) (rest := []) (lenOf pd_4 rfl) rfl (by show 2 * 0 + _ ≤ _; exact Nat.le_of_eq rfl) (hb hby at_113) (fun _ _ => ⟨rfl, rfl, (by decide : 1 + 0 ≤ _), (by decide : 2 + 0 ≤ _)⟩)
          dsimp only [Pt.U, Pt.locs, Pt.cells, Pt.slots] at X39 l39 y39 z39 st39 hQ39
          subst l39 y39 z39
          obtain ⟨rfl, N39q, e39⟩ := hQ39
          have N39 := Fr.app N38 N39q
          refine own_go (A' := (T39.setTop (mkF m 118 #[.val (.long q0), .second, .val (.long q1), .second, .val (.int p2), .val (.int (0 : Int32)), .val (.int (((p2.toUInt32 >>> ((1 : Int32) &&& 31).toUInt32).toInt32) &&& (3 : Int32))), .val (.long (q0 - (1 : Int64))), .second, .val .null, .val (.ref b37), .val (.int (0 : Int32))] [(.int (0 : Int32)), (.int (0 : Int32))]))) (fun t k => ?_) ?_
          · show Steps p.tables e below (T38.setTop (mkF m 108 #[.val (.long q0), .second, .val (.long q1), .second, .val (.int p2), .val (.int (0 : Int32)), .val (.int (((p2.toUInt32 >>> ((1 : Int32) &&& 31).toUInt32).toInt32) &&& (3 : Int32))), .val (.long (q0 - (1 : Int64))), .second, .val .null, .val (.ref b37), .unset] [])) _
            refine XS.iconst X38.here hx rfl (hb hby at_108) ?_
            show Steps p.tables e below (T38.setTop (mkF m 109 #[.val (.long q0), .second, .val (.long q1), .second, .val (.int p2), .val (.int (0 : Int32)), .val (.int (((p2.toUInt32 >>> ((1 : Int32) &&& 31).toUInt32).toInt32) &&& (3 : Int32))), .val (.long (q0 - (1 : Int64))), .second, .val .null, .val (.ref b37), .unset] [(.int (0 : Int32))])) _
            refine XS.istore X38.here hx rfl (hb hby at_109) rfl (l' := #[.val (.long q0), .second, .val (.long q1), .second, .val (.int p2), .val (.int (0 : Int32)), .val (.int (((p2.toUInt32 >>> ((1 : Int32) &&& 31).toUInt32).toInt32) &&& (3 : Int32))), .val (.long (q0 - (1 : Int64))), .second, .val .null, .val (.ref b37), .val (.int (0 : Int32))]) rfl ?_
            show Steps p.tables e below (T38.setTop (mkF m 111 #[.val (.long q0), .second, .val (.long q1), .second, .val (.int p2), .val (.int (0 : Int32)), .val (.int (((p2.toUInt32 >>> ((1 : Int32) &&& 31).toUInt32).toInt32) &&& (3 : Int32))), .val (.long (q0 - (1 : Int64))), .second, .val .null, .val (.ref b37), .val (.int (0 : Int32))] [])) _
            refine XS.aload X38.here hx rfl (hb hby at_111) rfl rfl ?_
            show Steps p.tables e below (T38.setTop (mkF m 113 #[.val (.long q0), .second, .val (.long q1), .second, .val (.int p2), .val (.int (0 : Int32)), .val (.int (((p2.toUInt32 >>> ((1 : Int32) &&& 31).toUInt32).toInt32) &&& (3 : Int32))), .val (.long (q0 - (1 : Int64))), .second, .val .null, .val (.ref b37), .val (.int (0 : Int32))] [(.ref b37)])) _
            refine st39.trans ?_
            show Steps p.tables e below (T39.setTop (mkF m 116 #[.val (.long q0), .second, .val (.long q1), .second, .val (.int p2), .val (.int (0 : Int32)), .val (.int (((p2.toUInt32 >>> ((1 : Int32) &&& 31).toUInt32).toInt32) &&& (3 : Int32))), .val (.long (q0 - (1 : Int64))), .second, .val .null, .val (.ref b37), .val (.int (0 : Int32))] [(.int (0 : Int32))])) _
            refine XS.iload X39.here hx rfl (hb hby at_116) rfl ?_
            exact k
          refine own_go (A' := (T39.setTop (mkF m 121 #[.val (.long q0), .second, .val (.long q1), .second, .val (.int p2), .val (.int (0 : Int32)), .val (.int (((p2.toUInt32 >>> ((1 : Int32) &&& 31).toUInt32).toInt32) &&& (3 : Int32))), .val (.long (q0 - (1 : Int64))), .second, .val .null, .val (.ref b37), .val (.int (0 : Int32))] []))) (fun t k => XS.icmpNo X39.here hx rfl (hb hby at_118) rfl (teq (by decide : (0 : Int32) = (0 : Int32))).2 k) ?_
          refine own_go (A' := (T39.setTop (mkF m 126 #[.val (.long q0), .second, .val (.long q1), .second, .val (.int p2), .val (.int (0 : Int32)), .val (.int (((p2.toUInt32 >>> ((1 : Int32) &&& 31).toUInt32).toInt32) &&& (3 : Int32))), .val (.long (q0 - (1 : Int64))), .second, .val .null, .val (.ref b37), .val (.int (0 : Int32))] [(.int (1 : Int32))]))) (fun t k => ?_) ?_
          · show Steps p.tables e below (T39.setTop (mkF m 121 #[.val (.long q0), .second, .val (.long q1), .second, .val (.int p2), .val (.int (0 : Int32)), .val (.int (((p2.toUInt32 >>> ((1 : Int32) &&& 31).toUInt32).toInt32) &&& (3 : Int32))), .val (.long (q0 - (1 : Int64))), .second, .val .null, .val (.ref b37), .val (.int (0 : Int32))] [])) _
            refine XS.iconst X39.here hx rfl (hb hby at_121) ?_
            show Steps p.tables e below (T39.setTop (mkF m 122 #[.val (.long q0), .second, .val (.long q1), .second, .val (.int p2), .val (.int (0 : Int32)), .val (.int (((p2.toUInt32 >>> ((1 : Int32) &&& 31).toUInt32).toInt32) &&& (3 : Int32))), .val (.long (q0 - (1 : Int64))), .second, .val .null, .val (.ref b37), .val (.int (0 : Int32))] [(.int (1 : Int32))])) _
            refine XS.goto X39.here hx rfl (pc0 := 122) (pc' := 126) rfl (hb hby at_122) (by decide) (by decide) ?_
            exact k
          obtain ⟨fs, hr, hrun, hended, hW, hsame⟩ := X39.leave (v := some (.int (1 : Int32))) (fun h => by rw [Bd.returns] at h; cases h)
          refine ⟨_, _, ?_, hrun, hended, _, _, rfl, ?_, ⟨_, rfl⟩, hW, hsame.mono (by decide) (by decide)⟩
          · show Steps p.tables e below (T39.setTop (mkF m 126 #[.val (.long q0), .second, .val (.long q1), .second, .val (.int p2), .val (.int (0 : Int32)), .val (.int (((p2.toUInt32 >>> ((1 : Int32) &&& 31).toUInt32).toInt32) &&& (3 : Int32))), .val (.long (q0 - (1 : Int64))), .second, .val .null, .val (.ref b37), .val (.int (0 : Int32))] [(.int (1 : Int32))])) _
            exact retN X39 hx (t := .boolean) Bd.returns (by simp) (hb hby at_126) hr
          · show Q0 Z q0 q1 p2 wC clC h0 n0 _ T39.heap _
            exact ⟨rfl, N39⟩
  · -- hc24: no
    refine own_go (A' := (s₁.setTop (mkF m 7 #[.val (.long q0), .second, .val (.long q1), .second, .val (.int p2), .unset, .unset, .unset, .unset, .unset, .unset, .unset] []))) (fun t k => XS.ifNo X0.here hx rfl (hb hby at_4) rfl ((if0 _ _).trans (feq hc24).1) k) ?_
    refine own_go (A' := (s₁.setTop (mkF m 24 #[.val (.long q0), .second, .val (.long q1), .second, .val (.int p2), .val (.int (1 : Int32)), .val (.int (((p2.toUInt32 >>> ((1 : Int32) &&& 31).toUInt32).toInt32) &&& (3 : Int32))), .unset, .unset, .unset, .unset, .unset] [(.int (((p2.toUInt32 >>> ((1 : Int32) &&& 31).toUInt32).toInt32) &&& (3 : Int32)))]))) (fun t k => ?_) ?_
    · show Steps p.tables e below (s₁.setTop (mkF m 7 #[.val (.long q0), .second, .val (.long q1), .second, .val (.int p2), .unset, .unset, .unset, .unset, .unset, .unset, .unset] [])) _
      refine XS.iconst X0.here hx rfl (hb hby at_7) ?_
      show Steps p.tables e below (s₁.setTop (mkF m 8 #[.val (.long q0), .second, .val (.long q1), .second, .val (.int p2), .unset, .unset, .unset, .unset, .unset, .unset, .unset] [(.int (1 : Int32))])) _
      refine XS.goto X0.here hx rfl (pc0 := 8) (pc' := 12) rfl (hb hby at_8) (by decide) (by decide) ?_
      show Steps p.tables e below (s₁.setTop (mkF m 12 #[.val (.long q0), .second, .val (.long q1), .second, .val (.int p2), .unset, .unset, .unset, .unset, .unset, .unset, .unset] [(.int (1 : Int32))])) _
      refine XS.istore X0.here hx rfl (hb hby at_12) rfl (l' := #[.val (.long q0), .second, .val (.long q1), .second, .val (.int p2), .val (.int (1 : Int32)), .unset, .unset, .unset, .unset, .unset, .unset]) rfl ?_
      show Steps p.tables e below (s₁.setTop (mkF m 14 #[.val (.long q0), .second, .val (.long q1), .second, .val (.int p2), .val (.int (1 : Int32)), .unset, .unset, .unset, .unset, .unset, .unset] [])) _
      refine XS.iload X0.here hx rfl (hb hby at_14) rfl ?_
      show Steps p.tables e below (s₁.setTop (mkF m 16 #[.val (.long q0), .second, .val (.long q1), .second, .val (.int p2), .val (.int (1 : Int32)), .unset, .unset, .unset, .unset, .unset, .unset] [(.int p2)])) _
      refine XS.iconst X0.here hx rfl (hb hby at_16) ?_
      show Steps p.tables e below (s₁.setTop (mkF m 17 #[.val (.long q0), .second, .val (.long q1), .second, .val (.int p2), .val (.int (1 : Int32)), .unset, .unset, .unset, .unset, .unset, .unset] [(.int (1 : Int32)), (.int p2)])) _
      refine XS.iushr X0.here hx rfl (hb hby at_17) rfl ?_
      show Steps p.tables e below (s₁.setTop (mkF m 18 #[.val (.long q0), .second, .val (.long q1), .second, .val (.int p2), .val (.int (1 : Int32)), .unset, .unset, .unset, .unset, .unset, .unset] [(.int ((p2.toUInt32 >>> ((1 : Int32) &&& 31).toUInt32).toInt32))])) _
      refine XS.iconst X0.here hx rfl (hb hby at_18) ?_
      show Steps p.tables e below (s₁.setTop (mkF m 19 #[.val (.long q0), .second, .val (.long q1), .second, .val (.int p2), .val (.int (1 : Int32)), .unset, .unset, .unset, .unset, .unset, .unset] [(.int (3 : Int32)), (.int ((p2.toUInt32 >>> ((1 : Int32) &&& 31).toUInt32).toInt32))])) _
      refine XS.iand X0.here hx rfl (hb hby at_19) rfl ?_
      show Steps p.tables e below (s₁.setTop (mkF m 20 #[.val (.long q0), .second, .val (.long q1), .second, .val (.int p2), .val (.int (1 : Int32)), .unset, .unset, .unset, .unset, .unset, .unset] [(.int (((p2.toUInt32 >>> ((1 : Int32) &&& 31).toUInt32).toInt32) &&& (3 : Int32)))])) _
      refine XS.istore X0.here hx rfl (hb hby at_20) rfl (l' := #[.val (.long q0), .second, .val (.long q1), .second, .val (.int p2), .val (.int (1 : Int32)), .val (.int (((p2.toUInt32 >>> ((1 : Int32) &&& 31).toUInt32).toInt32) &&& (3 : Int32))), .unset, .unset, .unset, .unset, .unset]) rfl ?_
      show Steps p.tables e below (s₁.setTop (mkF m 22 #[.val (.long q0), .second, .val (.long q1), .second, .val (.int p2), .val (.int (1 : Int32)), .val (.int (((p2.toUInt32 >>> ((1 : Int32) &&& 31).toUInt32).toInt32) &&& (3 : Int32))), .unset, .unset, .unset, .unset, .unset] [])) _
      refine XS.iload X0.here hx rfl (hb hby at_22) rfl ?_
      exact k
    by_cases hc40 : (((p2.toUInt32 >>> ((1 : Int32) &&& 31).toUInt32).toInt32) &&& (3 : Int32)) = (0 : Int32)
    · -- hc40: yes
      refine own_go (A' := (s₁.setTop (mkF m 27 #[.val (.long q0), .second, .val (.long q1), .second, .val (.int p2), .val (.int (1 : Int32)), .val (.int (((p2.toUInt32 >>> ((1 : Int32) &&& 31).toUInt32).toInt32) &&& (3 : Int32))), .unset, .unset, .unset, .unset, .unset] []))) (fun t k => XS.ifNo X0.here hx rfl (hb hby at_24) rfl ((if0 _ _).trans (teq hc40).2) k) ?_
      refine own_go (A' := (s₁.setTop (mkF m 66 #[.val (.long q0), .second, .val (.long q1), .second, .val (.int p2), .val (.int (1 : Int32)), .val (.int (((p2.toUInt32 >>> ((1 : Int32) &&& 31).toUInt32).toInt32) &&& (3 : Int32))), .val (.long q1), .second, .unset, .unset, .unset] [(.int (1 : Int32))]))) (fun t k => ?_) ?_
      · show Steps p.tables e below (s₁.setTop (mkF m 27 #[.val (.long q0), .second, .val (.long q1), .second, .val (.int p2), .val (.int (1 : Int32)), .val (.int (((p2.toUInt32 >>> ((1 : Int32) &&& 31).toUInt32).toInt32) &&& (3 : Int32))), .unset, .unset, .unset, .unset, .unset] [])) _
        refine XS.lloadN X0.here hx rfl (hb hby at_27) rfl ?_
        show Steps p.tables e below (s₁.setTop (mkF m 28 #[.val (.long q0), .second, .val (.long q1), .second, .val (.int p2), .val (.int (1 : Int32)), .val (.int (((p2.toUInt32 >>> ((1 : Int32) &&& 31).toUInt32).toInt32) &&& (3 : Int32))), .unset, .unset, .unset, .unset, .unset] [(.long q1)])) _
        refine XS.lstore X0.here hx rfl (hb hby at_28) rfl (l' := #[.val (.long q0), .second, .val (.long q1), .second, .val (.int p2), .val (.int (1 : Int32)), .val (.int (((p2.toUInt32 >>> ((1 : Int32) &&& 31).toUInt32).toInt32) &&& (3 : Int32))), .val (.long q1), .second, .unset, .unset, .unset]) rfl ?_
        show Steps p.tables e below (s₁.setTop (mkF m 30 #[.val (.long q0), .second, .val (.long q1), .second, .val (.int p2), .val (.int (1 : Int32)), .val (.int (((p2.toUInt32 >>> ((1 : Int32) &&& 31).toUInt32).toInt32) &&& (3 : Int32))), .val (.long q1), .second, .unset, .unset, .unset] [])) _
        refine XS.goto X0.here hx rfl (pc0 := 30) (pc' := 64) rfl (hb hby at_30) (by decide) (by decide) ?_
        show Steps p.tables e below (s₁.setTop (mkF m 64 #[.val (.long q0), .second, .val (.long q1), .second, .val (.int p2), .val (.int (1 : Int32)), .val (.int (((p2.toUInt32 >>> ((1 : Int32) &&& 31).toUInt32).toInt32) &&& (3 : Int32))), .val (.long q1), .second, .unset, .unset, .unset] [])) _
        refine XS.iload X0.here hx rfl (hb hby at_64) rfl ?_
        exact k
      refine own_go (A' := (s₁.setTop (mkF m 69 #[.val (.long q0), .second, .val (.long q1), .second, .val (.int p2), .val (.int (1 : Int32)), .val (.int (((p2.toUInt32 >>> ((1 : Int32) &&& 31).toUInt32).toInt32) &&& (3 : Int32))), .val (.long q1), .second, .unset, .unset, .unset] []))) (fun t k => XS.ifNo X0.here hx rfl (hb hby at_66) rfl ((if0 _ _).trans (feq (by decide : ¬ ((1 : Int32) = (0 : Int32)))).1) k) ?_
      obtain ⟨_, _, ⟨T41, L41, k41, n41⟩, -, X41, ⟨Lc41, hQ41, l41, y41, z41⟩, st41⟩ := Jvm.LawKit.callS X0 hx (y := (⟨"java/lang/Long", "valueOf", "(J)Ljava/lang/Long;"⟩ : MethodName)) hown (mvT hZ (hw _ (List.mem_of_getElem? (i := 18) rfl))) (mvT hZ (hw _ (List.mem_of_getElem? (i := 19) rfl))) (mvT hZ (hw _ (List.mem_of_getElem? (i := 20) rfl))) (mvT hZ (hw _ (List.mem_of_getElem? (i := 21) rfl))) (by decide) (backOf (W := 0) (rm4 l Z a0 hw [] q1 wC clC h0 n0 Z0 S_cache Ar_C L_C P_C) hZ (hw _ (List.mem_of_getElem? (i := 21) rfl)) (hw _ (List.mem_of_getElem? (i := 20) rfl)) (by decide) (by decide)) (g := (mkF m 71 #[.val (.long q0), .second, .val (.long q1), .second, .val (.int p2), .val (.int (1 : Int32)), .val (.int (((p2.toUInt32 >>> ((1 : Int32) &&& 31).toUInt32).toInt32) &&& (3 : Int32))), .val (.long q1), .second, .unset, .unset, .unset] [(.long q1)])) rfl (by rw [hml]; rfl) (argsL := [(.long q1)]) (rest := []) (lenOf pd_5 rfl) rfl (by show 2 * 0 + _ ≤ _; exact Nat.le_of_eq rfl) (hb hby at_71) (fun _ _ => ⟨rfl, e0, (by decide : 0 + 1 ≤ _), (by decide : 0 + 1 ≤ _)⟩)
      dsimp only [Pt.U, Pt.locs, Pt.cells, Pt.slots] at X41 l41 y41 z41 st41 hQ41
      subst l41 y41 z41
      obtain ⟨c41, rfl, N41q, K41q, E41q, F41q⟩ := hQ41
      have N41 := Fr.app N0 N41q
      have K41 : Keep h0 T41.heap [] := (Keep.refl h0 []).trans K41q all0
      have B41 : Ext h0 T41.heap := own_keep_ext K41
      obtain ⟨T42, h42, X42, e42, E42, A42, D42, -, st42⟩ := newO X41 hx hZ hown (hw _ (List.mem_of_getElem? (i := 0) rfl)) (hw _ (List.mem_of_getElem? (i := 1) rfl)) (hw _ (List.mem_of_getElem? (i := 2) rfl)) rfl (g := (mkF m 80 #[.val (.long q0), .second, .val (.long q1), .second, .val (.int p2), .val (.int (1 : Int32)), .val (.int (((p2.toUInt32 >>> ((1 : Int32) &&& 31).toUInt32).toInt32) &&& (3 : Int32))), .val (.long q1), .second, .val (.ref c41), .unset, .unset] [])) rfl (hb hby at_80) (by decide) (by decide)
      obtain ⟨b42, g42⟩ : ∃ z, z = T41.heap.size := ⟨_, rfl⟩
      have sz_b42 : h0.size ≤ b42 := Nat.le_trans K41.1 (Nat.le_of_eq g42.symm)
      have ne_c41_b42 : c41 ≠ b42 := Nat.ne_of_lt (Nat.lt_of_lt_of_le E41q.lt (Nat.le_of_eq g42.symm))
      rw [← g42] at A42 D42 st42
      have K42 : Keep h0 h42 [] := K41.ext E42
      have B42 : Ext h0 h42 := own_keep_ext K42
      have F42_min : Fld Z h42 b42 "com/example/lading/lading/core/Occurrence" "min" "J" (.long (0 : Int64)) := D42 (Or.inr (hw _ (List.mem_of_getElem? (i := 10) rfl))) (ty := .long) (by decide)
      have F42_max : Fld Z h42 b42 "com/example/lading/lading/core/Occurrence" "max" "Ljava/lang/Long;" .null := D42 (Or.inr (hw _ (List.mem_of_getElem? (i := 12) rfl))) (ty := (.object "java/lang/Long")) (by decide)
      obtain ⟨_, _, ⟨T43, L43, k43, n43⟩, -, X43, ⟨Lc43, hQ43, l43, y43, z43⟩, st43⟩ := X42.specialBack hx (y := (⟨"com/example/lading/lading/core/Occurrence", "<init>", "(JLjava/lang/Long;)V"⟩ : MethodName)) rfl hown (mvT hZ (hw _ (List.mem_of_getElem? (i := 3) rfl))) (mvT hZ (hw _ (List.mem_of_getElem? (i := 4) rfl))) (mvT hZ (hw _ (List.mem_of_getElem? (i := 5) rfl))) (by decide) (backOf (W := 1) (rm1 l Z a0 hw [] b42 q0 c41  h42 n0 (Nat.le_trans Z0 K42.1) A42 F42_min F42_max (Nat.le_trans Z0 sz_b42)) hZ (hw _ (List.mem_of_getElem? (i := 5) rfl)) (hw _ (List.mem_of_getElem? (i := 2) rfl)) (by decide) (by decide)) (g := (mkF m 87 #[.val (.long q0), .second, .val (.long q1), .second, .val (.int p2), .val (.int (1 : Int32)), .val (.int (((p2.toUInt32 >>> ((1 : Int32) &&& 31).toUInt32).toInt32) &&& (3 : Int32))), .val (.long q1), .second, .val (.ref c41), .unset, .unset] [(.ref c41), (.long q0), (.ref b42), (.ref b42)])) rfl (by rw [hml]; rfl) (Steps.refl _) (a := b42) (argsL := [(.long q0), (.ref c41)]) (rest := [(.ref b42)]) (lenOf pd_3 rfl) rfl (by show 2 * 0 + _ ≤ _; exact Nat.le_of_eq rfl) (hb hby at_87) (fun _ _ => ⟨rfl, e42, (by decide : 2 + 0 ≤ _), (by decide : 3 + 0 ≤ _)⟩)
      dsimp only [Pt.U, Pt.locs, Pt.cells, Pt.slots] at X43 l43 y43 z43 st43 hQ43
      subst l43 y43 z43
      obtain ⟨rfl, N43q, K43q, E43q, F43q, G43q⟩ := hQ43
      have N43 := Fr.app N41 N43q
      have K43 : Keep h0 T43.heap [] := K42.trans K43q (allS (Or.inr sz_b42) all0)
      have B43 : Ext h0 T43.heap := own_keep_ext K43
      refine own_go (A' := (T43.setTop (mkF m 94 #[.val (.long q0), .second, .val (.long q1), .second, .val (.int p2), .val (.int (1 : Int32)), .val (.int (((p2.toUInt32 >>> ((1 : Int32) &&& 31).toUInt32).toInt32) &&& (3 : Int32))), .val (.long q1), .second, .val (.ref c41), .val (.ref b42), .unset] [(.int (1 : Int32))]))) (fun t k => ?_) ?_
      · show Steps p.tables e below (s₁.setTop (mkF m 69 #[.val (.long q0), .second, .val (.long q1), .second, .val (.int p2), .val (.int (1 : Int32)), .val (.int (((p2.toUInt32 >>> ((1 : Int32) &&& 31).toUInt32).toInt32) &&& (3 : Int32))), .val (.long q1), .second, .unset, .unset, .unset] [])) _
        refine XS.lload X0.here hx rfl (hb hby at_69) rfl ?_
        show Steps p.tables e below (s₁.setTop (mkF m 71 #[.val (.long q0), .second, .val (.long q1), .second, .val (.int p2), .val (.int (1 : Int32)), .val (.int (((p2.toUInt32 >>> ((1 : Int32) &&& 31).toUInt32).toInt32) &&& (3 : Int32))), .val (.long q1), .second, .unset, .unset, .unset] [(.long q1)])) _
        refine st41 _ ?_
        show Steps p.tables e below (T41.setTop (mkF m 74 #[.val (.long q0), .second, .val (.long q1), .second, .val (.int p2), .val (.int (1 : Int32)), .val (.int (((p2.toUInt32 >>> ((1 : Int32) &&& 31).toUInt32).toInt32) &&& (3 : Int32))), .val (.long q1), .second, .unset, .unset, .unset] [(.ref c41)])) _
        refine XS.goto X41.here hx rfl (pc0 := 74) (pc' := 78) rfl (hb hby at_74) (by decide) (by decide) ?_
        show Steps p.tables e below (T41.setTop (mkF m 78 #[.val (.long q0), .second, .val (.long q1), .second, .val (.int p2), .val (.int (1 : Int32)), .val (.int (((p2.toUInt32 >>> ((1 : Int32) &&& 31).toUInt32).toInt32) &&& (3 : Int32))), .val (.long q1), .second, .unset, .unset, .unset] [(.ref c41)])) _
        refine XS.astore X41.here hx rfl (hb hby at_78) rfl rfl (l' := #[.val (.long q0), .second, .val (.long q1), .second, .val (.int p2), .val (.int (1 : Int32)), .val (.int (((p2.toUInt32 >>> ((1 : Int32) &&& 31).toUInt32).toInt32) &&& (3 : Int32))), .val (.long q1), .second, .val (.ref c41), .unset, .unset]) rfl ?_
        show Steps p.tables e below (T41.setTop (mkF m 80 #[.val (.long q0), .second, .val (.long q1), .second, .val (.int p2), .val (.int (1 : Int32)), .val (.int (((p2.toUInt32 >>> ((1 : Int32) &&& 31).toUInt32).toInt32) &&& (3 : Int32))), .val (.long q1), .second, .val (.ref c41), .unset, .unset] [])) _
        refine st42 _ ?_
        show Steps p.tables e below (T42.setTop (mkF m 83 #[.val (.long q0), .second, .val (.long q1), .second, .val (.int p2), .val (.int (1 : Int32)), .val (.int (((p2.toUInt32 >>> ((1 : Int32) &&& 31).toUInt32).toInt32) &&& (3 : Int32))), .val (.long q1), .second, .val (.ref c41), .unset, .unset] [(.ref b42)])) _
        refine XS.dup X42.here hx rfl (hb hby at_83) rfl rfl ?_
        show Steps p.tables e below (T42.setTop (mkF m 84 #[.val (.long q0), .second, .val (.long q1), .second, .val (.int p2), .val (.int (1 : Int32)), .val (.int (((p2.toUInt32 >>> ((1 : Int32) &&& 31).toUInt32).toInt32) &&& (3 : Int32))), .val (.long q1), .second, .val (.ref c41), .unset, .unset] [(.ref b42), (.ref b42)])) _
        refine XS.lloadN X42.here hx rfl (hb hby at_84) rfl ?_
        show Steps p.tables e below (T42.setTop (mkF m 85 #[.val (.long q0), .second, .val (.long q1), .second, .val (.int p2), .val (.int (1 : Int32)), .val (.int (((p2.toUInt32 >>> ((1 : Int32) &&& 31).toUInt32).toInt32) &&& (3 : Int32))), .val (.long q1), .second, .val (.ref c41), .unset, .unset] [(.long q0), (.ref b42), (.ref b42)])) _
        refine XS.aload X42.here hx rfl (hb hby at_85) rfl rfl ?_
        show Steps p.tables e below (T42.setTop (mkF m 87 #[.val (.long q0), .second, .val (.long q1), .second, .val (.int p2), .val (.int (1 : Int32)), .val (.int (((p2.toUInt32 >>> ((1 : Int32) &&& 31).toUInt32).toInt32) &&& (3 : Int32))), .val (.long q1), .second, .val (.ref c41), .unset, .unset] [(.ref c41), (.long q0), (.ref b42), (.ref b42)])) _
        refine st43.trans ?_
        show Steps p.tables e below (T43.setTop (mkF m 90 #[.val (.long q0), .second, .val (.long q1), .second, .val (.int p2), .val (.int (1 : Int32)), .val (.int (((p2.toUInt32 >>> ((1 : Int32) &&& 31).toUInt32).toInt32) &&& (3 : Int32))), .val (.long q1), .second, .val (.ref c41), .unset, .unset] [(.ref b42)])) _
        refine XS.astore X43.here hx rfl (hb hby at_90) rfl rfl (l' := #[.val (.long q0), .second, .val (.long q1), .second, .val (.int p2), .val (.int (1 : Int32)), .val (.int (((p2.toUInt32 >>> ((1 : Int32) &&& 31).toUInt32).toInt32) &&& (3 : Int32))), .val (.long q1), .second, .val (.ref c41), .val (.ref b42), .unset]) rfl ?_
        show Steps p.tables e below (T43.setTop (mkF m 92 #[.val (.long q0), .second, .val (.long q1), .second, .val (.int p2), .val (.int (1 : Int32)), .val (.int (((p2.toUInt32 >>> ((1 : Int32) &&& 31).toUInt32).toInt32) &&& (3 : Int32))), .val (.long q1), .second, .val (.ref c41), .val (.ref b42), .unset] [])) _
        refine XS.iload X43.here hx rfl (hb hby at_92) rfl ?_
        exact k
      refine own_go (A' := (T43.setTop (mkF m 97 #[.val (.long q0), .second, .val (.long q1), .second, .val (.int p2), .val (.int (1 : Int32)), .val (.int (((p2.toUInt32 >>> ((1 : Int32) &&& 31).toUInt32).toInt32) &&& (3 : Int32))), .val (.long q1), .second, .val (.ref c41), .val (.ref b42), .unset] []))) (fun t k => XS.ifNo X43.here hx rfl (hb hby at_94) rfl ((if0 _ _).trans (feq (by decide : ¬ ((1 : Int32) = (0 : Int32)))).1) k) ?_
      refine own_go (A' := (T43.setTop (mkF m 101 #[.val (.long q0), .second, .val (.long q1), .second, .val (.int p2), .val (.int (1 : Int32)), .val (.int (((p2.toUInt32 >>> ((1 : Int32) &&& 31).toUInt32).toInt32) &&& (3 : Int32))), .val (.long q1), .second, .val (.ref c41), .val (.ref b42), .unset] [(.int (lcmpW q1 q0))]))) (fun t k => ?_) ?_
      · show Steps p.tables e below (T43.setTop (mkF m 97 #[.val (.long q0), .second, .val (.long q1), .second, .val (.int p2), .val (.int (1 : Int32)), .val (.int (((p2.toUInt32 >>> ((1 : Int32) &&& 31).toUInt32).toInt32) &&& (3 : Int32))), .val (.long q1), .second, .val (.ref c41), .val (.ref b42), .unset] [])) _
        refine XS.lload X43.here hx rfl (hb hby at_97) rfl ?_
        show Steps p.tables e below (T43.setTop (mkF m 99 #[.val (.long q0), .second, .val (.long q1), .second, .val (.int p2), .val (.int (1 : Int32)), .val (.int (((p2.toUInt32 >>> ((1 : Int32) &&& 31).toUInt32).toInt32) &&& (3 : Int32))), .val (.long q1), .second, .val (.ref c41), .val (.ref b42), .unset] [(.long q1)])) _
        refine XS.lloadN X43.here hx rfl (hb hby at_99) rfl ?_
        show Steps p.tables e below (T43.setTop (mkF m 100 #[.val (.long q0), .second, .val (.long q1), .second, .val (.int p2), .val (.int (1 : Int32)), .val (.int (((p2.toUInt32 >>> ((1 : Int32) &&& 31).toUInt32).toInt32) &&& (3 : Int32))), .val (.long q1), .second, .val (.ref c41), .val (.ref b42), .unset] [(.long q0), (.long q1)])) _
        refine XS.lcmp X43.here hx rfl (hb hby at_100) rfl ?_
        exact k
      by_cases hc44 : (lcmpW q1 q0) = (0 : Int32)
      · -- hc44: yes
        refine own_go (A' := (T43.setTop (mkF m 104 #[.val (.long q0), .second, .val (.long q1), .second, .val (.int p2), .val (.int (1 : Int32)), .val (.int (((p2.toUInt32 >>> ((1 : Int32) &&& 31).toUInt32).toInt32) &&& (3 : Int32))), .val (.long q1), .second, .val (.ref c41), .val (.ref b42), .unset] []))) (fun t k => XS.ifNo X43.here hx rfl (hb hby at_101) rfl ((if0 _ _).trans (teq hc44).2) k) ?_
        obtain ⟨cq45, kq45, q45a, q45b, q45c⟩ := isOf hZ rfl E43q
        obtain ⟨_, _, ⟨T45, L45, k45, n45⟩, -, X45, ⟨Lc45, hQ45, l45, y45, z45⟩, st45⟩ := X43.virtualBack hx (y := (⟨"com/example/lading/lading/core/Occurrence", "isFixed", "()Z"⟩ : MethodName)) (z := (⟨"com/example/lading/lading/core/Occurrence", "isFixed", "()Z"⟩ : MethodName)) hown (mvT hZ (hw _ (List.mem_of_getElem? (i := 13) rfl))) (mvT hZ (hw _ (List.mem_of_getElem? (i := 14) rfl))) (notFace_of_selects (args := #[]) (mvT hZ (hw _ (List.mem_of_getElem? (i := 16) rfl)))) (mvT hZ (hw _ (List.mem_of_getElem? (i := 16) rfl))) (mvT hZ (hw _ (List.mem_of_getElem? (i := 15) rfl))) (by decide) (backOf (W := 0) (rm3 l Z a0 hw [] b42 q0 c41 q1 T43.heap n0 (Nat.le_trans Z0 K43.1) F43q G43q ((E41q.ext E42).keep K43q) ((F41q.ext E42).keep K43q (ninS ne_c41_b42 nin0))) hZ (hw _ (List.mem_of_getElem? (i := 17) rfl)) (hw _ (List.mem_of_getElem? (i := 2) rfl)) (by decide) (by decide)) q45a q45c (g := (mkF m 113 #[.val (.long q0), .second, .val (.long q1), .second, .val (.int p2), .val (.int (1 : Int32)), .val (.int (((p2.toUInt32 >>> ((1 : Int32) &&& 31).toUInt32).toInt32) &&& (3 : Int32))), .val (.long q1), .second, .val (.ref c41), .val (.ref b42), .val (.int (1 : Int32))] [(.ref b42)])) rfl (by rw [hml]; rfl) (Steps.refl _) (argsL := []) (rest := []) (lenOf pd_4 rfl) rfl (by show 2 * 0 + _ ≤ _; exact Nat.le_of_eq rfl) (hb hby at_113) (fun _ _ => ⟨rfl, rfl, (by decide : 2 + 0 ≤ _), (by decide : 3 + 0 ≤ _)⟩)
        dsimp only [Pt.U, Pt.locs, Pt.cells, Pt.slots] at X45 l45 y45 z45 st45 hQ45
        subst l45 y45 z45
        obtain ⟨rfl, N45q, e45⟩ := hQ45
        have N45 := Fr.app N43 N45q
        refine own_go (A' := (T45.setTop (mkF m 118 #[.val (.long q0), .second, .val (.long q1), .second, .val (.int p2), .val (.int (1 : Int32)), .val (.int (((p2.toUInt32 >>> ((1 : Int32) &&& 31).toUInt32).toInt32) &&& (3 : Int32))), .val (.long q1), .second, .val (.ref c41), .val (.ref b42), .val (.int (1 : Int32))] [(.int (1 : Int32)), (.int (fx q1 q0))]))) (fun t k => ?_) ?_
        · show Steps p.tables e below (T43.setTop (mkF m 104 #[.val (.long q0), .second, .val (.long q1), .second, .val (.int p2), .val (.int (1 : Int32)), .val (.int (((p2.toUInt32 >>> ((1 : Int32) &&& 31).toUInt32).toInt32) &&& (3 : Int32))), .val (.long q1), .second, .val (.ref c41), .val (.ref b42), .unset] [])) _
          refine XS.iconst X43.here hx rfl (hb hby at_104) ?_
          show Steps p.tables e below (T43.setTop (mkF m 105 #[.val (.long q0), .second, .val (.long q1), .second, .val (.int p2), .val (.int (1 : Int32)), .val (.int (((p2.toUInt32 >>> ((1 : Int32) &&& 31).toUInt32).toInt32) &&& (3 : Int32))), .val (.long q1), .second, .val (.ref c41), .val (.ref b42), .unset] [(.int (1 : Int32))])) _
          refine XS.goto X43.here hx rfl (pc0 := 105) (pc' := 109) rfl (hb hby at_105) (by decide) (by decide) ?_
          show Steps p.tables e below (T43.setTop (mkF m 109 #[.val (.long q0), .second, .val (.long q1), .second, .val (.int p2), .val (.int (1 : Int32)), .val (.int (((p2.toUInt32 >>> ((1 : Int32) &&& 31).toUInt32).toInt32) &&& (3 : Int32))), .val (.long q1), .second, .val (.ref c41), .val (.ref b42), .unset] [(.int (1 : Int32))])) _
          refine XS.istore X43.here hx rfl (hb hby at_109) rfl (l' := #[.val (.long q0), .second, .val (.long q1), .second, .val (.int p2), .val (.int (1 : Int32)), .val (.int (((p2.toUInt32 >>> ((1 : Int32) &&& 31).toUInt32).toInt32) &&& (3 : Int32))), .val (.long q1), .second, .val (.ref c41), .val (.ref b42), .val (.int (1 : Int32))]) rfl ?_
          show Steps p.tables e below (T43.setTop (mkF m 111 #[.val (.long q0), .second, .val (.long q1), .second, .val (.int p2), .val (.int (1 : Int32)), .val (.int (((p2.toUInt32 >>> ((1 : Int32) &&& 31).toUInt32).toInt32) &&& (3 : Int32))), .val (.long q1), .second, .val (.ref c41), .val (.ref b42), .val (.int (1 : Int32))] [])) _
          refine XS.aload X43.here hx rfl (hb hby at_111) rfl rfl ?_
          show Steps p.tables e below (T43.setTop (mkF m 113 #[.val (.long q0), .second, .val (.long q1), .second, .val (.int p2), .val (.int (1 : Int32)), .val (.int (((p2.toUInt32 >>> ((1 : Int32) &&& 31).toUInt32).toInt32) &&& (3 : Int32))), .val (.long q1), .second, .val (.ref c41), .val (.ref b42), .val (.int (1 : Int32))] [(.ref b42)])) _
          refine st45.trans ?_
          show Steps p.tables e below (T45.setTop (mkF m 116 #[.val (.long q0), .second, .val (.long q1), .second, .val (.int p2), .val (.int (1 : Int32)), .val (.int (((p2.toUInt32 >>> ((1 : Int32) &&& 31).toUInt32).toInt32) &&& (3 : Int32))), .val (.long q1), .second, .val (.ref c41), .val (.ref b42), .val (.int (1 : Int32))] [(.int (fx q1 q0))])) _
          refine XS.iload X45.here hx rfl (hb hby at_116) rfl ?_
          exact k
        refine own_go (A' := (T45.setTop (mkF m 121 #[.val (.long q0), .second, .val (.long q1), .second, .val (.int p2), .val (.int (1 : Int32)), .val (.int (((p2.toUInt32 >>> ((1 : Int32) &&& 31).toUInt32).toInt32) &&& (3 : Int32))), .val (.long q1), .second, .val (.ref c41), .val (.ref b42), .val (.int (1 : Int32))] []))) (fun t k => XS.icmpNo X45.here hx rfl (hb hby at_118) rfl (teq (by rw [fx, if_pos hc44])).2 k) ?_
        refine own_go (A' := (T45.setTop (mkF m 126 #[.val (.long q0), .second, .val (.long q1), .second, .val (.int p2), .val (.int (1 : Int32)), .val (.int (((p2.toUInt32 >>> ((1 : Int32) &&& 31).toUInt32).toInt32) &&& (3 : Int32))), .val (.long q1), .second, .val (.ref c41), .val (.ref b42), .val (.int (1 : Int32))] [(.int (1 : Int32))]))) (fun t k => ?_) ?_
        · show Steps p.tables e below (T45.setTop (mkF m 121 #[.val (.long q0), .second, .val (.long q1), .second, .val (.int p2), .val (.int (1 : Int32)), .val (.int (((p2.toUInt32 >>> ((1 : Int32) &&& 31).toUInt32).toInt32) &&& (3 : Int32))), .val (.long q1), .second, .val (.ref c41), .val (.ref b42), .val (.int (1 : Int32))] [])) _
          refine XS.iconst X45.here hx rfl (hb hby at_121) ?_
          show Steps p.tables e below (T45.setTop (mkF m 122 #[.val (.long q0), .second, .val (.long q1), .second, .val (.int p2), .val (.int (1 : Int32)), .val (.int (((p2.toUInt32 >>> ((1 : Int32) &&& 31).toUInt32).toInt32) &&& (3 : Int32))), .val (.long q1), .second, .val (.ref c41), .val (.ref b42), .val (.int (1 : Int32))] [(.int (1 : Int32))])) _
          refine XS.goto X45.here hx rfl (pc0 := 122) (pc' := 126) rfl (hb hby at_122) (by decide) (by decide) ?_
          exact k
        obtain ⟨fs, hr, hrun, hended, hW, hsame⟩ := X45.leave (v := some (.int (1 : Int32))) (fun h => by rw [Bd.returns] at h; cases h)
        refine ⟨_, _, ?_, hrun, hended, _, _, rfl, ?_, ⟨_, rfl⟩, hW, hsame.mono (by decide) (by decide)⟩
        · show Steps p.tables e below (T45.setTop (mkF m 126 #[.val (.long q0), .second, .val (.long q1), .second, .val (.int p2), .val (.int (1 : Int32)), .val (.int (((p2.toUInt32 >>> ((1 : Int32) &&& 31).toUInt32).toInt32) &&& (3 : Int32))), .val (.long q1), .second, .val (.ref c41), .val (.ref b42), .val (.int (1 : Int32))] [(.int (1 : Int32))])) _
          exact retN X45 hx (t := .boolean) Bd.returns (by simp) (hb hby at_126) hr
        · show Q0 Z q0 q1 p2 wC clC h0 n0 _ T45.heap _
          exact ⟨rfl, N45⟩
      · -- hc44: no
        refine own_go (A' := (T43.setTop (mkF m 108 #[.val (.long q0), .second, .val (.long q1), .second, .val (.int p2), .val (.int (1 : Int32)), .val (.int (((p2.toUInt32 >>> ((1 : Int32) &&& 31).toUInt32).toInt32) &&& (3 : Int32))), .val (.long q1), .second, .val (.ref c41), .val (.ref b42), .unset] []))) (fun t k => XS.ifYes X43.here hx rfl (pc0 := 101) (pc' := 108) rfl (hb hby at_101) rfl ((if0 _ _).trans (feq hc44).2) (by decide) (by decide) k) ?_
        obtain ⟨cq46, kq46, q46a, q46b, q46c⟩ := isOf hZ rfl E43q
        obtain ⟨_, _, ⟨T46, L46, k46, n46⟩, -, X46, ⟨Lc46, hQ46, l46, y46, z46⟩, st46⟩ := X43.virtualBack hx (y := (⟨"com/example/lading/lading/core/Occurrence", "isFixed", "()Z"⟩ : MethodName)) (z := (⟨"com/example/lading/lading/core/Occurrence", "isFixed", "()Z"⟩ : MethodName)) hown (mvT hZ (hw _ (List.mem_of_getElem? (i := 13) rfl))) (mvT hZ (hw _ (List.mem_of_getElem? (i := 14) rfl))) (notFace_of_selects (args := #[]) (mvT hZ (hw _ (List.mem_of_getElem? (i := 16) rfl)))) (mvT hZ (hw _ (List.mem_of_getElem? (i := 16) rfl))) (mvT hZ (hw _ (List.mem_of_getElem? (i := 15) rfl))) (by decide) (backOf (W := 0) (rm3 l Z a0 hw [] b42 q0 c41 q1 T43.heap n0 (Nat.le_trans Z0 K43.1) F43q G43q ((E41q.ext E42).keep K43q) ((F41q.ext E42).keep K43q (ninS ne_c41_b42 nin0))) hZ (hw _ (List.mem_of_getElem? (i := 17) rfl)) (hw _ (List.mem_of_getElem? (i := 2) rfl)) (by decide) (by decide)) q46a q46c (g := (mkF m 113 #[.val (.long q0), .second, .val (.long q1), .second, .val (.int p2), .val (.int (1 : Int32)), .val (.int (((p2.toUInt32 >>> ((1 : Int32) &&& 31).toUInt32).toInt32) &&& (3 : Int32))), .val (.long q1), .second, .val (.ref c41), .val (.ref b42), .val (.int (0 : Int32))] [(.ref b42)])) rfl (by rw [hml]; rfl) (Steps.refl _) (argsL := []) (rest := []) (lenOf pd_4 rfl) rfl (by show 2 * 0 + _ ≤ _; exact Nat.le_of_eq rfl) (hb hby at_113) (fun _ _ => ⟨rfl, rfl, (by decide : 2 + 0 ≤ _), (by decide : 3 + 0 ≤ _)⟩)
        dsimp only [Pt.U, Pt.locs, Pt.cells, Pt.slots] at X46 l46 y46 z46 st46 hQ46
        subst l46 y46 z46
        obtain ⟨rfl, N46q, e46⟩ := hQ46
        have N46 := Fr.app N43 N46q
        refine own_go (A' := (T46.setTop (mkF m 118 #[.val (.long q0), .second, .val (.long q1), .second, .val (.int p2), .val (.int (1 : Int32)), .val (.int (((p2.toUInt32 >>> ((1 : Int32) &&& 31).toUInt32).toInt32) &&& (3 : Int32))), .val (.long q1), .second, .val (.ref c41), .val (.ref b42), .val (.int (0 : Int32))] [(.int (0 : Int32)), (.int (fx q1 q0))]))) (fun t k => ?_) ?_
        · show Steps p.tables e below (T43.setTop (mkF m 108 #[.val (.long q0), .second, .val (.long q1), .second, .val (.int p2), .val (.int (1 : Int32)), .val (.int (((p2.toUInt32 >>> ((1 : Int32) &&& 31).toUInt32).toInt32) &&& (3 : Int32))), .val (.long q1), .second, .val (.ref c41), .val (.ref b42), .unset] [])) _
          refine XS.iconst X43.here hx rfl (hb hby at_108) ?_
          show Steps p.tables e below (T43.setTop (mkF m 109 #[.val (.long q0), .second, .val (.long q1), .second, .val (.int p2), .val (.int (1 : Int32)), .val (.int (((p2.toUInt32 >>> ((1 : Int32) &&& 31).toUInt32).toInt32) &&& (3 : Int32))), .val (.long q1), .second, .val (.ref c41), .val (.ref b42), .unset] [(.int (0 : Int32))])) _
          refine XS.istore X43.here hx rfl (hb hby at_109) rfl (l' := #[.val (.long q0), .second, .val (.long q1), .second, .val (.int p2), .val (.int (1 : Int32)), .val (.int (((p2.toUInt32 >>> ((1 : Int32) &&& 31).toUInt32).toInt32) &&& (3 : Int32))), .val (.long q1), .second, .val (.ref c41), .val (.ref b42), .val (.int (0 : Int32))]) rfl ?_
          show Steps p.tables e below (T43.setTop (mkF m 111 #[.val (.long q0), .second, .val (.long q1), .second, .val (.int p2), .val (.int (1 : Int32)), .val (.int (((p2.toUInt32 >>> ((1 : Int32) &&& 31).toUInt32).toInt32) &&& (3 : Int32))), .val (.long q1), .second, .val (.ref c41), .val (.ref b42), .val (.int (0 : Int32))] [])) _
          refine XS.aload X43.here hx rfl (hb hby at_111) rfl rfl ?_
          show Steps p.tables e below (T43.setTop (mkF m 113 #[.val (.long q0), .second, .val (.long q1), .second, .val (.int p2), .val (.int (1 : Int32)), .val (.int (((p2.toUInt32 >>> ((1 : Int32) &&& 31).toUInt32).toInt32) &&& (3 : Int32))), .val (.long q1), .second, .val (.ref c41), .val (.ref b42), .val (.int (0 : Int32))] [(.ref b42)])) _
          refine st46.trans ?_
          show Steps p.tables e below (T46.setTop (mkF m 116 #[.val (.long q0), .second, .val (.long q1), .second, .val (.int p2), .val (.int (1 : Int32)), .val (.int (((p2.toUInt32 >>> ((1 : Int32) &&& 31).toUInt32).toInt32) &&& (3 : Int32))), .val (.long q1), .second, .val (.ref c41), .val (.ref b42), .val (.int (0 : Int32))] [(.int (fx q1 q0))])) _
          refine XS.iload X46.here hx rfl (hb hby at_116) rfl ?_
          exact k
        refine own_go (A' := (T46.setTop (mkF m 121 #[.val (.long q0), .second, .val (.long q1), .second, .val (.int p2), .val (.int (1 : Int32)), .val (.int (((p2.toUInt32 >>> ((1 : Int32) &&& 31).toUInt32).toInt32) &&& (3 : Int32))), .val (.long q1), .second, .val (.ref c41), .val (.ref b42), .val (.int (0 : Int32))] []))) (fun t k => XS.icmpNo X46.here hx rfl (hb hby at_118) rfl (teq (by rw [fx, if_neg hc44])).2 k) ?_
        refine own_go (A' := (T46.setTop (mkF m 126 #[.val (.long q0), .second, .val (.long q1), .second, .val (.int p2), .val (.int (1 : Int32)), .val (.int (((p2.toUInt32 >>> ((1 : Int32) &&& 31).toUInt32).toInt32) &&& (3 : Int32))), .val (.long q1), .second, .val (.ref c41), .val (.ref b42), .val (.int (0 : Int32))] [(.int (1 : Int32))]))) (fun t k => ?_) ?_
        · show Steps p.tables e below (T46.setTop (mkF m 121 #[.val (.long q0), .second, .val (.long q1), .second, .val (.int p2), .val (.int (1 : Int32)), .val (.int (((p2.toUInt32 >>> ((1 : Int32) &&& 31).toUInt32).toInt32) &&& (3 : Int32))), .val (.long q1), .second, .val (.ref c41), .val (.ref b42), .val (.int (0 : Int32))] [])) _
          refine XS.iconst X46.here hx rfl (hb hby at_121) ?_
          show Steps p.tables e below (T46.setTop (mkF m 122 #[.val (.long q0), .second, .val (.long q1), .second, .val (.int p2), .val (.int (1 : Int32)), .val (.int (((p2.toUInt32 >>> ((1 : Int32) &&& 31).toUInt32).toInt32) &&& (3 : Int32))), .val (.long q1), .second, .val (.ref c41), .val (.ref b42), .val (.int (0 : Int32))] [(.int (1 : Int32))])) _
          refine XS.goto X46.here hx rfl (pc0 := 122) (pc' := 126) rfl (hb hby at_122) (by decide) (by decide) ?_
          exact k
        obtain ⟨fs, hr, hrun, hended, hW, hsame⟩ := X46.leave (v := some (.int (1 : Int32))) (fun h => by rw [Bd.returns] at h; cases h)
        refine ⟨_, _, ?_, hrun, hended, _, _, rfl, ?_, ⟨_, rfl⟩, hW, hsame.mono (by decide) (by decide)⟩
        · show Steps p.tables e below (T46.setTop (mkF m 126 #[.val (.long q0), .second, .val (.long q1), .second, .val (.int p2), .val (.int (1 : Int32)), .val (.int (((p2.toUInt32 >>> ((1 : Int32) &&& 31).toUInt32).toInt32) &&& (3 : Int32))), .val (.long q1), .second, .val (.ref c41), .val (.ref b42), .val (.int (0 : Int32))] [(.int (1 : Int32))])) _
          exact retN X46 hx (t := .boolean) Bd.returns (by simp) (hb hby at_126) hr
        · show Q0 Z q0 q1 p2 wC clC h0 n0 _ T46.heap _
          exact ⟨rfl, N46⟩
    · -- hc40: no
      refine own_go (A' := (s₁.setTop (mkF m 33 #[.val (.long q0), .second, .val (.long q1), .second, .val (.int p2), .val (.int (1 : Int32)), .val (.int (((p2.toUInt32 >>> ((1 : Int32) &&& 31).toUInt32).toInt32) &&& (3 : Int32))), .unset, .unset, .unset, .unset, .unset] []))) (fun t k => XS.ifYes X0.here hx rfl (pc0 := 24) (pc' := 33) rfl (hb hby at_24) rfl ((if0 _ _).trans (feq hc40).2) (by decide) (by decide) k) ?_
      refine own_go (A' := (s₁.setTop (mkF m 36 #[.val (.long q0), .second, .val (.long q1), .second, .val (.int p2), .val (.int (1 : Int32)), .val (.int (((p2.toUInt32 >>> ((1 : Int32) &&& 31).toUInt32).toInt32) &&& (3 : Int32))), .unset, .unset, .unset, .unset, .unset] [(.int (1 : Int32)), (.int (((p2.toUInt32 >>> ((1 : Int32) &&& 31).toUInt32).toInt32) &&& (3 : Int32)))]))) (fun t k => ?_) ?_
      · show Steps p.tables e below (s₁.setTop (mkF m 33 #[.val (.long q0), .second, .val (.long q1), .second, .val (.int p2), .val (.int (1 : Int32)), .val (.int (((p2.toUInt32 >>> ((1 : Int32) &&& 31).toUInt32).toInt32) &&& (3 : Int32))), .unset, .unset, .unset, .unset, .unset] [])) _
        refine XS.iload X0.here hx rfl (hb hby at_33) rfl ?_
        show Steps p.tables e below (s₁.setTop (mkF m 35 #[.val (.long q0), .second, .val (.long q1), .second, .val (.int p2), .val (.int (1 : Int32)), .val (.int (((p2.toUInt32 >>> ((1 : Int32) &&& 31).toUInt32).toInt32) &&& (3 : Int32))), .unset, .unset, .unset, .unset, .unset] [(.int (((p2.toUInt32 >>> ((1 : Int32) &&& 31).toUInt32).toInt32) &&& (3 : Int32)))])) _
        refine XS.iconst X0.here hx rfl (hb hby at_35) ?_
        exact k
      by_cases hc47 : (((p2.toUInt32 >>> ((1 : Int32) &&& 31).toUInt32).toInt32) &&& (3 : Int32)) = (1 : Int32)
      · -- hc47: yes
        refine own_go (A' := (s₁.setTop (mkF m 39 #[.val (.long q0), .second, .val (.long q1), .second, .val (.int p2), .val (.int (1 : Int32)), .val (.int (((p2.toUInt32 >>> ((1 : Int32) &&& 31).toUInt32).toInt32) &&& (3 : Int32))), .unset, .unset, .unset, .unset, .unset] []))) (fun t k => XS.icmpNo X0.here hx rfl (hb hby at_36) rfl (teq hc47).2 k) ?_
        refine own_go (A' := (s₁.setTop (mkF m 66 #[.val (.long q0), .second, .val (.long q1), .second, .val (.int p2), .val (.int (1 : Int32)), .val (.int (((p2.toUInt32 >>> ((1 : Int32) &&& 31).toUInt32).toInt32) &&& (3 : Int32))), .val (.long q0), .second, .unset, .unset, .unset] [(.int (1 : Int32))]))) (fun t k => ?_) ?_
        · show Steps p.tables e below (s₁.setTop (mkF m 39 #[.val (.long q0), .second, .val (.long q1), .second, .val (.int p2), .val (.int (1 : Int32)), .val (.int (((p2.toUInt32 >>> ((1 : Int32) &&& 31).toUInt32).toInt32) &&& (3 : Int32))), .unset, .unset, .unset, .unset, .unset] [])) _
          refine XS.lloadN X0.here hx rfl (hb hby at_39) rfl ?_
          show Steps p.tables e below (s₁.setTop (mkF m 40 #[.val (.long q0), .second, .val (.long q1), .second, .val (.int p2), .val (.int (1 : Int32)), .val (.int (((p2.toUInt32 >>> ((1 : Int32) &&& 31).toUInt32).toInt32) &&& (3 : Int32))), .unset, .unset, .unset, .unset, .unset] [(.long q0)])) _
          refine XS.lstore X0.here hx rfl (hb hby at_40) rfl (l' := #[.val (.long q0), .second, .val (.long q1), .second, .val (.int p2), .val (.int (1 : Int32)), .val (.int (((p2.toUInt32 >>> ((1 : Int32) &&& 31).toUInt32).toInt32) &&& (3 : Int32))), .val (.long q0), .second, .unset, .unset, .unset]) rfl ?_
          show Steps p.tables e below (s₁.setTop (mkF m 42 #[.val (.long q0), .second, .val (.long q1), .second, .val (.int p2), .val (.int (1 : Int32)), .val (.int (((p2.toUInt32 >>> ((1 : Int32) &&& 31).toUInt32).toInt32) &&& (3 : Int32))), .val (.long q0), .second, .unset, .unset, .unset] [])) _
          refine XS.goto X0.here hx rfl (pc0 := 42) (pc' := 64) rfl (hb hby at_42) (by decide) (by decide) ?_
          show Steps p.tables e below (s₁.setTop (mkF m 64 #[.val (.long q0), .second, .val (.long q1), .second, .val (.int p2), .val (.int (1 : Int32)), .val (.int (((p2.toUInt32 >>> ((1 : Int32) &&& 31).toUInt32).toInt32) &&& (3 : Int32))), .val (.long q0), .second, .unset, .unset, .unset] [])) _
          refine XS.iload X0.here hx rfl (hb hby at_64) rfl ?_
          exact k
        refine own_go (A' := (s₁.setTop (mkF m 69 #[.val (.long q0), .second, .val (.long q1), .second, .val (.int p2), .val (.int (1 : Int32)), .val (.int (((p2.toUInt32 >>> ((1 : Int32) &&& 31).toUInt32).toInt32) &&& (3 : Int32))), .val (.long q0), .second, .unset, .unset, .unset] []))) (fun t k => XS.ifNo X0.here hx rfl (hb hby at_66) rfl ((if0 _ _).trans (feq (by decide : ¬ ((1 : Int32) = (0 : Int32)))).1) k) ?_
        obtain ⟨_, _, ⟨T48, L48, k48, n48⟩, -, X48, ⟨Lc48, hQ48, l48, y48, z48⟩, st48⟩ := Jvm.LawKit.callS X0 hx (y := (⟨"java/lang/Long", "valueOf", "(J)Ljava/lang/Long;"⟩ : MethodName)) hown (mvT hZ (hw _ (List.mem_of_getElem? (i := 18) rfl))) (mvT hZ (hw _ (List.mem_of_getElem? (i := 19) rfl))) (mvT hZ (hw _ (List.mem_of_getElem? (i := 20) rfl))) (mvT hZ (hw _ (List.mem_of_getElem? (i := 21) rfl))) (by decide) (backOf (W := 0) (rm4 l Z a0 hw [] q0 wC clC h0 n0 Z0 S_cache Ar_C L_C P_C) hZ (hw _ (List.mem_of_getElem? (i := 21) rfl)) (hw _ (List.mem_of_getElem? (i := 20) rfl)) (by decide) (by decide)) (g := (mkF m 71 #[.val (.long q0), .second, .val (.long q1), .second, .val (.int p2), .val (.int (1 : Int32)), .val (.int (((p2.toUInt32 >>> ((1 : Int32) &&& 31).toUInt32).toInt32) &&& (3 : Int32))), .val (.long q0), .second, .unset, .unset, .unset] [(.long q0)])) rfl (by rw [hml]; rfl) (argsL := [(.long q0)]) (rest := []) (lenOf pd_5 rfl) rfl (by show 2 * 0 + _ ≤ _; exact Nat.le_of_eq rfl) (hb hby at_71) (fun _ _ => ⟨rfl, e0, (by decide : 0 + 1 ≤ _), (by decide : 0 + 1 ≤ _)⟩)
        dsimp only [Pt.U, Pt.locs, Pt.cells, Pt.slots] at X48 l48 y48 z48 st48 hQ48
        subst l48 y48 z48
        obtain ⟨c48, rfl, N48q, K48q, E48q, F48q⟩ := hQ48
        have N48 := Fr.app N0 N48q
        have K48 : Keep h0 T48.heap [] := (Keep.refl h0 []).trans K48q all0
        have B48 : Ext h0 T48.heap := own_keep_ext K48
        obtain ⟨T49, h49, X49, e49, E49, A49, D49, -, st49⟩ := newO X48 hx hZ hown (hw _ (List.mem_of_getElem? (i := 0) rfl)) (hw _ (List.mem_of_getElem? (i := 1) rfl)) (hw _ (List.mem_of_getElem? (i := 2) rfl)) rfl (g := (mkF m 80 #[.val (.long q0), .second, .val (.long q1), .second, .val (.int p2), .val (.int (1 : Int32)), .val (.int (((p2.toUInt32 >>> ((1 : Int32) &&& 31).toUInt32).toInt32) &&& (3 : Int32))), .val (.long q0), .second, .val (.ref c48), .unset, .unset] [])) rfl (hb hby at_80) (by decide) (by decide)
        obtain ⟨b49, g49⟩ : ∃ z, z = T48.heap.size := ⟨_, rfl⟩
        have sz_b49 : h0.size ≤ b49 := Nat.le_trans K48.1 (Nat.le_of_eq g49.symm)
        have ne_c48_b49 : c48 ≠ b49 := Nat.ne_of_lt (Nat.lt_of_lt_of_le E48q.lt (Nat.le_of_eq g49.symm))
        rw [← g49] at A49 D49 st49
        have K49 : Keep h0 h49 [] := K48.ext E49
        have B49 : Ext h0 h49 := own_keep_ext K49
        have F49_min : Fld Z h49 b49 "com/example/lading/lading/core/Occurrence" "min" "J" (.long (0 : Int64)) := D49 (Or.inr (hw _ (List.mem_of_getElem? (i := 10) rfl))) (ty := .long) (by decide)
        have F49_max : Fld Z h49 b49 "com/example/lading/lading/core/Occurrence" "max" "Ljava/lang/Long;" .null := D49 (Or.inr (hw _ (List.mem_of_getElem? (i := 12) rfl))) (ty := (.object "java/lang/Long")) (by decide)
        obtain ⟨_, _, ⟨T50, L50, k50, n50⟩, -, X50, ⟨Lc50, hQ50, l50, y50, z50⟩, st50⟩ := X49.specialBack hx (y := (⟨"com/example/lading/lading/core/Occurrence", "<init>", "(JLjava/lang/Long;)V"⟩ : MethodName)) rfl hown (mvT hZ (hw _ (List.mem_of_getElem? (i := 3) rfl))) (mvT hZ (hw _ (List.mem_of_getElem? (i := 4) rfl))) (mvT hZ (hw _ (List.mem_of_getElem? (i := 5) rfl))) (by decide) (backOf (W := 1) (rm1 l Z a0 hw [] b49 q0 c48  h49 n0 (Nat.le_trans Z0 K49.1) A49 F49_min F49_max (Nat.le_trans Z0 sz_b49)) hZ (hw _ (List.mem_of_getElem? (i := 5) rfl)) (hw _ (List.mem_of_getElem? (i := 2) rfl)) (by decide) (by decide)) (g := (mkF m 87 #[.val (.long q0), .second, .val (.long q1), .second, .val (.int p2), .val (.int (1 : Int32)), .val (.int (((p2.toUInt32 >>> ((1 : Int32) &&& 31).toUInt32).toInt32) &&& (3 : Int32))), .val (.long q0), .second, .val (.ref c48), .unset, .unset] [(.ref c48), (.long q0), (.ref b49), (.ref b49)])) rfl (by rw [hml]; rfl) (Steps.refl _) (a := b49) (argsL := [(.long q0), (.ref c48)]) (rest := [(.ref b49)]) (lenOf pd_3 rfl) rfl (by show 2 * 0 + _ ≤ _; exact Nat.le_of_eq rfl) (hb hby at_87) (fun _ _ => ⟨rfl, e49, (by decide : 2 + 0 ≤ _), (by decide : 3 + 0 ≤ _)⟩)
        dsimp only [Pt.U, Pt.locs, Pt.cells, Pt.slots] at X50 l50 y50 z50 st50 hQ50
        subst l50 y50 z50
        obtain ⟨rfl, N50q, K50q, E50q, F50q, G50q⟩ := hQ50
        have N50 := Fr.app N48 N50q
        have K50 : Keep h0 T50.heap [] := K49.trans K50q (allS (Or.inr sz_b49) all0)
        have B50 : Ext h0 T50.heap := own_keep_ext K50
        refine own_go (A' := (T50.setTop (mkF m 94 #[.val (.long q0), .second, .val (.long q1), .second, .val (.int p2), .val (.int (1 : Int32)), .val (.int (((p2.toUInt32 >>> ((1 : Int32) &&& 31).toUInt32).toInt32) &&& (3 : Int32))), .val (.long q0), .second, .val (.ref c48), .val (.ref b49), .unset] [(.int (1 : Int32))]))) (fun t k => ?_) ?_
        · show Steps p.tables e below (s₁.setTop (mkF m 69 #[.val (.long q0), .second, .val (.long q1), .second, .val (.int p2), .val (.int (1 : Int32)), .val (.int (((p2.toUInt32 >>> ((1 : Int32) &&& 31).toUInt32).toInt32) &&& (3 : Int32))), .val (.long q0), .second, .unset, .unset, .unset] [])) _
          refine XS.lload X0.here hx rfl (hb hby at_69) rfl ?_
          show Steps p.tables e below (s₁.setTop (mkF m 71 #[.val (.long q0), .second, .val (.long q1), .second, .val (.int p2), .val (.int (1 : Int32)), .val (.int (((p2.toUInt32 >>> ((1 : Int32) &&& 31).toUInt32).toInt32) &&& (3 : Int32))), .val (.long q0), .second, .unset, .unset, .unset] [(.long q0)])) _
          refine st48 _ ?_
          show Steps p.tables e below (T48.setTop (mkF m 74 #[.val (.long q0), .second, .val (.long q1), .second, .val (.int p2), .val (.int (1 : Int32)), .val (.int (((p2.toUInt32 >>> ((1 : Int32) &&& 31).toUInt32).toInt32) &&& (3 : Int32))), .val (.long q0), .second, .unset, .unset, .unset] [(.ref c48)])) _
          refine XS.goto X48.here hx rfl (pc0 := 74) (pc' := 78) rfl (hb hby at_74) (by decide) (by decide) ?_
          show Steps p.tables e below (T48.setTop (mkF m 78 #[.val (.long q0), .second, .val (.long q1), .second, .val (.int p2), .val (.int (1 : Int32)), .val (.int (((p2.toUInt32 >>> ((1 : Int32) &&& 31).toUInt32).toInt32) &&& (3 : Int32))), .val (.long q0), .second, .unset, .unset, .unset] [(.ref c48)])) _
          refine XS.astore X48.here hx rfl (hb hby at_78) rfl rfl (l' := #[.val (.long q0), .second, .val (.long q1), .second, .val (.int p2), .val (.int (1 : Int32)), .val (.int (((p2.toUInt32 >>> ((1 : Int32) &&& 31).toUInt32).toInt32) &&& (3 : Int32))), .val (.long q0), .second, .val (.ref c48), .unset, .unset]) rfl ?_
          show Steps p.tables e below (T48.setTop (mkF m 80 #[.val (.long q0), .second, .val (.long q1), .second, .val (.int p2), .val (.int (1 : Int32)), .val (.int (((p2.toUInt32 >>> ((1 : Int32) &&& 31).toUInt32).toInt32) &&& (3 : Int32))), .val (.long q0), .second, .val (.ref c48), .unset, .unset] [])) _
          refine st49 _ ?_
          show Steps p.tables e below (T49.setTop (mkF m 83 #[.val (.long q0), .second, .val (.long q1), .second, .val (.int p2), .val (.int (1 : Int32)), .val (.int (((p2.toUInt32 >>> ((1 : Int32) &&& 31).toUInt32).toInt32) &&& (3 : Int32))), .val (.long q0), .second, .val (.ref c48), .unset, .unset] [(.ref b49)])) _
          refine XS.dup X49.here hx rfl (hb hby at_83) rfl rfl ?_
          show Steps p.tables e below (T49.setTop (mkF m 84 #[.val (.long q0), .second, .val (.long q1), .second, .val (.int p2), .val (.int (1 : Int32)), .val (.int (((p2.toUInt32 >>> ((1 : Int32) &&& 31).toUInt32).toInt32) &&& (3 : Int32))), .val (.long q0), .second, .val (.ref c48), .unset, .unset] [(.ref b49), (.ref b49)])) _
          refine XS.lloadN X49.here hx rfl (hb hby at_84) rfl ?_
          show Steps p.tables e below (T49.setTop (mkF m 85 #[.val (.long q0), .second, .val (.long q1), .second, .val (.int p2), .val (.int (1 : Int32)), .val (.int (((p2.toUInt32 >>> ((1 : Int32) &&& 31).toUInt32).toInt32) &&& (3 : Int32))), .val (.long q0), .second, .val (.ref c48), .unset, .unset] [(.long q0), (.ref b49), (.ref b49)])) _
          refine XS.aload X49.here hx rfl (hb hby at_85) rfl rfl ?_
          show Steps p.tables e below (T49.setTop (mkF m 87 #[.val (.long q0), .second, .val (.long q1), .second, .val (.int p2), .val (.int (1 : Int32)), .val (.int (((p2.toUInt32 >>> ((1 : Int32) &&& 31).toUInt32).toInt32) &&& (3 : Int32))), .val (.long q0), .second, .val (.ref c48), .unset, .unset] [(.ref c48), (.long q0), (.ref b49), (.ref b49)])) _
          refine st50.trans ?_
          show Steps p.tables e below (T50.setTop (mkF m 90 #[.val (.long q0), .second, .val (.long q1), .second, .val (.int p2), .val (.int (1 : Int32)), .val (.int (((p2.toUInt32 >>> ((1 : Int32) &&& 31).toUInt32).toInt32) &&& (3 : Int32))), .val (.long q0), .second, .val (.ref c48), .unset, .unset] [(.ref b49)])) _
          refine XS.astore X50.here hx rfl (hb hby at_90) rfl rfl (l' := #[.val (.long q0), .second, .val (.long q1), .second, .val (.int p2), .val (.int (1 : Int32)), .val (.int (((p2.toUInt32 >>> ((1 : Int32) &&& 31).toUInt32).toInt32) &&& (3 : Int32))), .val (.long q0), .second, .val (.ref c48), .val (.ref b49), .unset]) rfl ?_
          show Steps p.tables e below (T50.setTop (mkF m 92 #[.val (.long q0), .second, .val (.long q1), .second, .val (.int p2), .val (.int (1 : Int32)), .val (.int (((p2.toUInt32 >>> ((1 : Int32) &&& 31).toUInt32).toInt32) &&& (3 : Int32))), .val (.long q0), .second, .val (.ref c48), .val (.ref b49), .unset] [])) _
          refine XS.iload X50.here hx rfl (hb hby at_92) rfl ?_
          exact k
        refine own_go (A' := (T50.setTop (mkF m 97 #[.val (.long q0), .second, .val (.long q1), .second, .val (.int p2), .val (.int (1 : Int32)), .val (.int (((p2.toUInt32 >>> ((1 : Int32) &&& 31).toUInt32).toInt32) &&& (3 : Int32))), .val (.long q0), .second, .val (.ref c48), .val (.ref b49), .unset] []))) (fun t k => XS.ifNo X50.here hx rfl (hb hby at_94) rfl ((if0 _ _).trans (feq (by decide : ¬ ((1 : Int32) = (0 : Int32)))).1) k) ?_
        refine own_go (A' := (T50.setTop (mkF m 101 #[.val (.long q0), .second, .val (.long q1), .second, .val (.int p2), .val (.int (1 : Int32)), .val (.int (((p2.toUInt32 >>> ((1 : Int32) &&& 31).toUInt32).toInt32) &&& (3 : Int32))), .val (.long q0), .second, .val (.ref c48), .val (.ref b49), .unset] [(.int (lcmpW q0 q0))]))) (fun t k => ?_) ?_
        · show Steps p.tables e below (T50.setTop (mkF m 97 #[.val (.long q0), .second, .val (.long q1), .second, .val (.int p2), .val (.int (1 : Int32)), .val (.int (((p2.toUInt32 >>> ((1 : Int32) &&& 31).toUInt32).toInt32) &&& (3 : Int32))), .val (.long q0), .second, .val (.ref c48), .val (.ref b49), .unset] [])) _
          refine XS.lload X50.here hx rfl (hb hby at_97) rfl ?_
          show Steps p.tables e below (T50.setTop (mkF m 99 #[.val (.long q0), .second, .val (.long q1), .second, .val (.int p2), .val (.int (1 : Int32)), .val (.int (((p2.toUInt32 >>> ((1 : Int32) &&& 31).toUInt32).toInt32) &&& (3 : Int32))), .val (.long q0), .second, .val (.ref c48), .val (.ref b49), .unset] [(.long q0)])) _
          refine XS.lloadN X50.here hx rfl (hb hby at_99) rfl ?_
          show Steps p.tables e below (T50.setTop (mkF m 100 #[.val (.long q0), .second, .val (.long q1), .second, .val (.int p2), .val (.int (1 : Int32)), .val (.int (((p2.toUInt32 >>> ((1 : Int32) &&& 31).toUInt32).toInt32) &&& (3 : Int32))), .val (.long q0), .second, .val (.ref c48), .val (.ref b49), .unset] [(.long q0), (.long q0)])) _
          refine XS.lcmp X50.here hx rfl (hb hby at_100) rfl ?_
          exact k
        by_cases hc51 : (lcmpW q0 q0) = (0 : Int32)
        · -- hc51: yes
          refine own_go (A' := (T50.setTop (mkF m 104 #[.val (.long q0), .second, .val (.long q1), .second, .val (.int p2), .val (.int (1 : Int32)), .val (.int (((p2.toUInt32 >>> ((1 : Int32) &&& 31).toUInt32).toInt32) &&& (3 : Int32))), .val (.long q0), .second, .val (.ref c48), .val (.ref b49), .unset] []))) (fun t k => XS.ifNo X50.here hx rfl (hb hby at_101) rfl ((if0 _ _).trans (teq hc51).2) k) ?_
          obtain ⟨cq52, kq52, q52a, q52b, q52c⟩ := isOf hZ rfl E50q
          obtain ⟨_, _, ⟨T52, L52, k52, n52⟩, -, X52, ⟨Lc52, hQ52, l52, y52, z52⟩, st52⟩ := X50.virtualBack hx (y := (⟨"com/example/lading/lading/core/Occurrence", "isFixed", "()Z"⟩ : MethodName)) (z := (⟨"com/example/lading/lading/core/Occurrence", "isFixed", "()Z"⟩ : MethodName)) hown (mvT hZ (hw _ (List.mem_of_getElem? (i := 13) rfl))) (mvT hZ (hw _ (List.mem_of_getElem? (i := 14) rfl))) (notFace_of_selects (args := #[]) (mvT hZ (hw _ (List.mem_of_getElem? (i := 16) rfl)))) (mvT hZ (hw _ (List.mem_of_getElem? (i := 16) rfl))) (mvT hZ (hw _ (List.mem_of_getElem? (i := 15) rfl))) (by decide) (backOf (W := 0) (rm3 l Z a0 hw [] b49 q0 c48 q0 T50.heap n0 (Nat.le_trans Z0 K50.1) F50q G50q ((E48q.ext E49).keep K50q) ((F48q.ext E49).keep K50q (ninS ne_c48_b49 nin0))) hZ (hw _ (List.mem_of_getElem? (i := 17) rfl)) (hw _ (List.mem_of_getElem? (i := 2) rfl)) (by decide) (by decide)) q52a q52c (g := (mkF m 113 #[.val (.long q0), .second, .val (.long q1), .second, .val (.int p2), .val (.int (1 : Int32)), .val (.int (((p2.toUInt32 >>> ((1 : Int32) &&& 31).toUInt32).toInt32) &&& (3 : Int32))), .val (.long q0), .second, .val (.ref c48), .val (.ref b49), .val (.int (1 : Int32))] [(.ref b49)])) rfl (by rw [hml]; rfl) (Steps.refl _) (argsL := []) (rest := []) (lenOf pd_4 rfl) rfl (by show 2 * 0 + _ ≤ _; exact Nat.le_of_eq rfl) (hb hby at_113) (fun _ _ => ⟨rfl, rfl, (by decide : 2 + 0 ≤ _), (by decide : 3 + 0 ≤ _)⟩)
          dsimp only [Pt.U, Pt.locs, Pt.cells, Pt.slots] at X52 l52 y52 z52 st52 hQ52
          subst l52 y52 z52
          obtain ⟨rfl, N52q, e52⟩ := hQ52
          have N52 := Fr.app N50 N52q
          refine own_go (A' := (T52.setTop (mkF m 118 #[.val (.long q0), .second, .val (.long q1), .second, .val (.int p2), .val (.int (1 : Int32)), .val (.int (((p2.toUInt32 >>> ((1 : Int32) &&& 31).toUInt32).toInt32) &&& (3 : Int32))), .val (.long q0), .second, .val (.ref c48), .val (.ref b49), .val (.int (1 : Int32))] [(.int (1 : Int32)), (.int (fx q0 q0))]))) (fun t k => ?_) ?_
          · show Steps p.tables e below (T50.setTop (mkF m 104 #[.val (.long q0), .second, .val (.long q1), .second, .val (.int p2), .val (.int (1 : Int32)), .val (.int (((p2.toUInt32 >>> ((1 : Int32) &&& 31).toUInt32).toInt32) &&& (3 : Int32))), .val (.long q0), .second, .val (.ref c48), .val (.ref b49), .unset] [])) _
            refine XS.iconst X50.here hx rfl (hb hby at_104) ?_
            show Steps p.tables e below (T50.setTop (mkF m 105 #[.val (.long q0), .second, .val (.long q1), .second, .val (.int p2), .val (.int (1 : Int32)), .val (.int (((p2.toUInt32 >>> ((1 : Int32) &&& 31).toUInt32).toInt32) &&& (3 : Int32))), .val (.long q0), .second, .val (.ref c48), .val (.ref b49), .unset] [(.int (1 : Int32))])) _
            refine XS.goto X50.here hx rfl (pc0 := 105) (pc' := 109) rfl (hb hby at_105) (by decide) (by decide) ?_
            show Steps p.tables e below (T50.setTop (mkF m 109 #[.val (.long q0), .second, .val (.long q1), .second, .val (.int p2), .val (.int (1 : Int32)), .val (.int (((p2.toUInt32 >>> ((1 : Int32) &&& 31).toUInt32).toInt32) &&& (3 : Int32))), .val (.long q0), .second, .val (.ref c48), .val (.ref b49), .unset] [(.int (1 : Int32))])) _
            refine XS.istore X50.here hx rfl (hb hby at_109) rfl (l' := #[.val (.long q0), .second, .val (.long q1), .second, .val (.int p2), .val (.int (1 : Int32)), .val (.int (((p2.toUInt32 >>> ((1 : Int32) &&& 31).toUInt32).toInt32) &&& (3 : Int32))), .val (.long q0), .second, .val (.ref c48), .val (.ref b49), .val (.int (1 : Int32))]) rfl ?_
            show Steps p.tables e below (T50.setTop (mkF m 111 #[.val (.long q0), .second, .val (.long q1), .second, .val (.int p2), .val (.int (1 : Int32)), .val (.int (((p2.toUInt32 >>> ((1 : Int32) &&& 31).toUInt32).toInt32) &&& (3 : Int32))), .val (.long q0), .second, .val (.ref c48), .val (.ref b49), .val (.int (1 : Int32))] [])) _
            refine XS.aload X50.here hx rfl (hb hby at_111) rfl rfl ?_
            show Steps p.tables e below (T50.setTop (mkF m 113 #[.val (.long q0), .second, .val (.long q1), .second, .val (.int p2), .val (.int (1 : Int32)), .val (.int (((p2.toUInt32 >>> ((1 : Int32) &&& 31).toUInt32).toInt32) &&& (3 : Int32))), .val (.long q0), .second, .val (.ref c48), .val (.ref b49), .val (.int (1 : Int32))] [(.ref b49)])) _
            refine st52.trans ?_
            show Steps p.tables e below (T52.setTop (mkF m 116 #[.val (.long q0), .second, .val (.long q1), .second, .val (.int p2), .val (.int (1 : Int32)), .val (.int (((p2.toUInt32 >>> ((1 : Int32) &&& 31).toUInt32).toInt32) &&& (3 : Int32))), .val (.long q0), .second, .val (.ref c48), .val (.ref b49), .val (.int (1 : Int32))] [(.int (fx q0 q0))])) _
            refine XS.iload X52.here hx rfl (hb hby at_116) rfl ?_
            exact k
          refine own_go (A' := (T52.setTop (mkF m 121 #[.val (.long q0), .second, .val (.long q1), .second, .val (.int p2), .val (.int (1 : Int32)), .val (.int (((p2.toUInt32 >>> ((1 : Int32) &&& 31).toUInt32).toInt32) &&& (3 : Int32))), .val (.long q0), .second, .val (.ref c48), .val (.ref b49), .val (.int (1 : Int32))] []))) (fun t k => XS.icmpNo X52.here hx rfl (hb hby at_118) rfl (teq (by rw [fx, if_pos hc51])).2 k) ?_
          refine own_go (A' := (T52.setTop (mkF m 126 #[.val (.long q0), .second, .val (.long q1), .second, .val (.int p2), .val (.int (1 : Int32)), .val (.int (((p2.toUInt32 >>> ((1 : Int32) &&& 31).toUInt32).toInt32) &&& (3 : Int32))), .val (.long q0), .second, .val (.ref c48), .val (.ref b49), .val (.int (1 : Int32))] [(.int (1 : Int32))]))) (fun t k => ?_) ?_
          · show Steps p.tables e below (T52.setTop (mkF m 121 #[.val (.long q0), .second, .val (.long q1), .second, .val (.int p2), .val (.int (1 : Int32)), .val (.int (((p2.toUInt32 >>> ((1 : Int32) &&& 31).toUInt32).toInt32) &&& (3 : Int32))), .val (.long q0), .second, .val (.ref c48), .val (.ref b49), .val (.int (1 : Int32))] [])) _
            refine XS.iconst X52.here hx rfl (hb hby at_121) ?_
            show Steps p.tables e below (T52.setTop (mkF m 122 #[.val (.long q0), .second, .val (.long q1), .second, .val (.int p2), .val (.int (1 : Int32)), .val (.int (((p2.toUInt32 >>> ((1 : Int32) &&& 31).toUInt32).toInt32) &&& (3 : Int32))), .val (.long q0), .second, .val (.ref c48), .val (.ref b49), .val (.int (1 : Int32))] [(.int (1 : Int32))])) _
            refine XS.goto X52.here hx rfl (pc0 := 122) (pc' := 126) rfl (hb hby at_122) (by decide) (by decide) ?_
            exact k
          obtain ⟨fs, hr, hrun, hended, hW, hsame⟩ := X52.leave (v := some (.int (1 : Int32))) (fun h => by rw [Bd.returns] at h; cases h)
          refine ⟨_, _, ?_, hrun, hended, _, _, rfl, ?_, ⟨_, rfl⟩, hW, hsame.mono (by decide) (by decide)⟩
          · show Steps p.tables e below (T52.setTop (mkF m 126 #[.val (.long q0), .second, .val (.long q1), .second, .val (.int p2), .val (.int (1 : Int32)), .val (.int (((p2.toUInt32 >>> ((1 : Int32) &&& 31).toUInt32).toInt32) &&& (3 : Int32))), .val (.long q0), .second, .val (.ref c48), .val (.ref b49), .val (.int (1 : Int32))] [(.int (1 : Int32))])) _
            exact retN X52 hx (t := .boolean) Bd.returns (by simp) (hb hby at_126) hr
          · show Q0 Z q0 q1 p2 wC clC h0 n0 _ T52.heap _
            exact ⟨rfl, N52⟩
        · -- hc51: no
          refine own_go (A' := (T50.setTop (mkF m 108 #[.val (.long q0), .second, .val (.long q1), .second, .val (.int p2), .val (.int (1 : Int32)), .val (.int (((p2.toUInt32 >>> ((1 : Int32) &&& 31).toUInt32).toInt32) &&& (3 : Int32))), .val (.long q0), .second, .val (.ref c48), .val (.ref b49), .unset] []))) (fun t k => XS.ifYes X50.here hx rfl (pc0 := 101) (pc' := 108) rfl (hb hby at_101) rfl ((if0 _ _).trans (feq hc51).2) (by decide) (by decide) k) ?_
          obtain ⟨cq53, kq53, q53a, q53b, q53c⟩ := isOf hZ rfl E50q
          obtain ⟨_, _, ⟨T53, L53, k53, n53⟩, -, X53, ⟨Lc53, hQ53, l53, y53, z53⟩, st53⟩ := X50.virtualBack hx (y := (⟨"com/example/lading/lading/core/Occurrence", "isFixed", "()Z"⟩ : MethodName)) (z := (⟨"com/example/lading/lading/core/Occurrence", "isFixed", "()Z"⟩ : MethodName)) hown (mvT hZ (hw _ (List.mem_of_getElem? (i := 13) rfl))) (mvT hZ (hw _ (List.mem_of_getElem? (i := 14) rfl))) (notFace_of_selects (args := #[]) (mvT hZ (hw _ (List.mem_of_getElem? (i := 16) rfl)))) (mvT hZ (hw _ (List.mem_of_getElem? (i := 16) rfl))) (mvT hZ (hw _ (List.mem_of_getElem? (i := 15) rfl))) (by decide) (backOf (W := 0) (rm3 l Z a0 hw [] b49 q0 c48 q0 T50.heap n0 (Nat.le_trans Z0 K50.1) F50q G50q ((E48q.ext E49).keep K50q) ((F48q.ext E49).keep K50q (ninS ne_c48_b49 nin0))) hZ (hw _ (List.mem_of_getElem? (i := 17) rfl)) (hw _ (List.mem_of_getElem? (i := 2) rfl)) (by decide) (by decide)) q53a q53c (g := (mkF m 113 #[.val (.long q0), .second, .val (.long q1), .second, .val (.int p2), .val (.int (1 : Int32)), .val (.int (((p2.toUInt32 >>> ((1 : Int32) &&& 31).toUInt32).toInt32) &&& (3 : Int32))), .val (.long q0), .second, .val (.ref c48), .val (.ref b49), .val (.int (0 : Int32))] [(.ref b49)])) rfl (by rw [hml]; rfl) (Steps.refl _) (argsL := []) (rest := []) (lenOf pd_4 rfl) rfl (by show 2 * 0 + _ ≤ _; exact Nat.le_of_eq rfl) (hb hby at_113) (fun _ _ => ⟨rfl, rfl, (by decide : 2 + 0 ≤ _), (by decide : 3 + 0 ≤ _)⟩)
          dsimp only [Pt.U, Pt.locs, Pt.cells, Pt.slots] at X53 l53 y53 z53 st53 hQ53
          subst l53 y53 z53
          obtain ⟨rfl, N53q, e53⟩ := hQ53
          have N53 := Fr.app N50 N53q
          refine own_go (A' := (T53.setTop (mkF m 118 #[.val (.long q0), .second, .val (.long q1), .second, .val (.int p2), .val (.int (1 : Int32)), .val (.int (((p2.toUInt32 >>> ((1 : Int32) &&& 31).toUInt32).toInt32) &&& (3 : Int32))), .val (.long q0), .second, .val (.ref c48), .val (.ref b49), .val (.int (0 : Int32))] [(.int (0 : Int32)), (.int (fx q0 q0))]))) (fun t k => ?_) ?_
          · show Steps p.tables e below (T50.setTop (mkF m 108 #[.val (.long q0), .second, .val (.long q1), .second, .val (.int p2), .val (.int (1 : Int32)), .val (.int (((p2.toUInt32 >>> ((1 : Int32) &&& 31).toUInt32).toInt32) &&& (3 : Int32))), .val (.long q0), .second, .val (.ref c48), .val (.ref b49), .unset] [])) _
            refine XS.iconst X50.here hx rfl (hb hby at_108) ?_
            show Steps p.tables e below (T50.setTop (mkF m 109 #[.val (.long q0), .second, .val (.long q1), .second, .val (.int p2), .val (.int (1 : Int32)), .val (.int (((p2.toUInt32 >>> ((1 : Int32) &&& 31).toUInt32).toInt32) &&& (3 : Int32))), .val (.long q0), .second, .val (.ref c48), .val (.ref b49), .unset] [(.int (0 : Int32))])) _
            refine XS.istore X50.here hx rfl (hb hby at_109) rfl (l' := #[.val (.long q0), .second, .val (.long q1), .second, .val (.int p2), .val (.int (1 : Int32)), .val (.int (((p2.toUInt32 >>> ((1 : Int32) &&& 31).toUInt32).toInt32) &&& (3 : Int32))), .val (.long q0), .second, .val (.ref c48), .val (.ref b49), .val (.int (0 : Int32))]) rfl ?_
            show Steps p.tables e below (T50.setTop (mkF m 111 #[.val (.long q0), .second, .val (.long q1), .second, .val (.int p2), .val (.int (1 : Int32)), .val (.int (((p2.toUInt32 >>> ((1 : Int32) &&& 31).toUInt32).toInt32) &&& (3 : Int32))), .val (.long q0), .second, .val (.ref c48), .val (.ref b49), .val (.int (0 : Int32))] [])) _
            refine XS.aload X50.here hx rfl (hb hby at_111) rfl rfl ?_
            show Steps p.tables e below (T50.setTop (mkF m 113 #[.val (.long q0), .second, .val (.long q1), .second, .val (.int p2), .val (.int (1 : Int32)), .val (.int (((p2.toUInt32 >>> ((1 : Int32) &&& 31).toUInt32).toInt32) &&& (3 : Int32))), .val (.long q0), .second, .val (.ref c48), .val (.ref b49), .val (.int (0 : Int32))] [(.ref b49)])) _
            refine st53.trans ?_
            show Steps p.tables e below (T53.setTop (mkF m 116 #[.val (.long q0), .second, .val (.long q1), .second, .val (.int p2), .val (.int (1 : Int32)), .val (.int (((p2.toUInt32 >>> ((1 : Int32) &&& 31).toUInt32).toInt32) &&& (3 : Int32))), .val (.long q0), .second, .val (.ref c48), .val (.ref b49), .val (.int (0 : Int32))] [(.int (fx q0 q0))])) _
            refine XS.iload X53.here hx rfl (hb hby at_116) rfl ?_
            exact k
          refine own_go (A' := (T53.setTop (mkF m 121 #[.val (.long q0), .second, .val (.long q1), .second, .val (.int p2), .val (.int (1 : Int32)), .val (.int (((p2.toUInt32 >>> ((1 : Int32) &&& 31).toUInt32).toInt32) &&& (3 : Int32))), .val (.long q0), .second, .val (.ref c48), .val (.ref b49), .val (.int (0 : Int32))] []))) (fun t k => XS.icmpNo X53.here hx rfl (hb hby at_118) rfl (teq (by rw [fx, if_neg hc51])).2 k) ?_
          refine own_go (A' := (T53.setTop (mkF m 126 #[.val (.long q0), .second, .val (.long q1), .second, .val (.int p2), .val (.int (1 : Int32)), .val (.int (((p2.toUInt32 >>> ((1 : Int32) &&& 31).toUInt32).toInt32) &&& (3 : Int32))), .val (.long q0), .second, .val (.ref c48), .val (.ref b49), .val (.int (0 : Int32))] [(.int (1 : Int32))]))) (fun t k => ?_) ?_
          · show Steps p.tables e below (T53.setTop (mkF m 121 #[.val (.long q0), .second, .val (.long q1), .second, .val (.int p2), .val (.int (1 : Int32)), .val (.int (((p2.toUInt32 >>> ((1 : Int32) &&& 31).toUInt32).toInt32) &&& (3 : Int32))), .val (.long q0), .second, .val (.ref c48), .val (.ref b49), .val (.int (0 : Int32))] [])) _
            refine XS.iconst X53.here hx rfl (hb hby at_121) ?_
            show Steps p.tables e below (T53.setTop (mkF m 122 #[.val (.long q0), .second, .val (.long q1), .second, .val (.int p2), .val (.int (1 : Int32)), .val (.int (((p2.toUInt32 >>> ((1 : Int32) &&& 31).toUInt32).toInt32) &&& (3 : Int32))), .val (.long q0), .second, .val (.ref c48), .val (.ref b49), .val (.int (0 : Int32))] [(.int (1 : Int32))])) _
            refine XS.goto X53.here hx rfl (pc0 := 122) (pc' := 126) rfl (hb hby at_122) (by decide) (by decide) ?_
            exact k
          obtain ⟨fs, hr, hrun, hended, hW, hsame⟩ := X53.leave (v := some (.int (1 : Int32))) (fun h => by rw [Bd.returns] at h; cases h)
          refine ⟨_, _, ?_, hrun, hended, _, _, rfl, ?_, ⟨_, rfl⟩, hW, hsame.mono (by decide) (by decide)⟩
          · show Steps p.tables e below (T53.setTop (mkF m 126 #[.val (.long q0), .second, .val (.long q1), .second, .val (.int p2), .val (.int (1 : Int32)), .val (.int (((p2.toUInt32 >>> ((1 : Int32) &&& 31).toUInt32).toInt32) &&& (3 : Int32))), .val (.long q0), .second, .val (.ref c48), .val (.ref b49), .val (.int (0 : Int32))] [(.int (1 : Int32))])) _
            exact retN X53 hx (t := .boolean) Bd.returns (by simp) (hb hby at_126) hr
          · show Q0 Z q0 q1 p2 wC clC h0 n0 _ T53.heap _
            exact ⟨rfl, N53⟩
      · -- hc47: no
        refine own_go (A' := (s₁.setTop (mkF m 45 #[.val (.long q0), .second, .val (.long q1), .second, .val (.int p2), .val (.int (1 : Int32)), .val (.int (((p2.toUInt32 >>> ((1 : Int32) &&& 31).toUInt32).toInt32) &&& (3 : Int32))), .unset, .unset, .unset, .unset, .unset] []))) (fun t k => XS.icmpYes X0.here hx rfl (pc0 := 36) (pc' := 45) rfl (hb hby at_36) rfl (feq hc47).2 (by decide) (by decide) k) ?_
        refine own_go (A' := (s₁.setTop (mkF m 48 #[.val (.long q0), .second, .val (.long q1), .second, .val (.int p2), .val (.int (1 : Int32)), .val (.int (((p2.toUInt32 >>> ((1 : Int32) &&& 31).toUInt32).toInt32) &&& (3 : Int32))), .unset, .unset, .unset, .unset, .unset] [(.int (2 : Int32)), (.int (((p2.toUInt32 >>> ((1 : Int32) &&& 31).toUInt32).toInt32) &&& (3 : Int32)))]))) (fun t k => ?_) ?_
        · show Steps p.tables e below (s₁.setTop (mkF m 45 #[.val (.long q0), .second, .val (.long q1), .second, .val (.int p2), .val (.int (1 : Int32)), .val (.int (((p2.toUInt32 >>> ((1 : Int32) &&& 31).toUInt32).toInt32) &&& (3 : Int32))), .unset, .unset, .unset, .unset, .unset] [])) _
          refine XS.iload X0.here hx rfl (hb hby at_45) rfl ?_
          show Steps p.tables e below (s₁.setTop (mkF m 47 #[.val (.long q0), .second, .val (.long q1), .second, .val (.int p2), .val (.int (1 : Int32)), .val (.int (((p2.toUInt32 >>> ((1 : Int32) &&& 31).toUInt32).toInt32) &&& (3 : Int32))), .unset, .unset, .unset, .unset, .unset] [(.int (((p2.toUInt32 >>> ((1 : Int32) &&& 31).toUInt32).toInt32) &&& (3 : Int32)))])) _
          refine XS.iconst X0.here hx rfl (hb hby at_47) ?_
          exact k
        by_cases hc54 : (((p2.toUInt32 >>> ((1 : Int32) &&& 31).toUInt32).toInt32) &&& (3 : Int32)) = (2 : Int32)
        · -- hc54: yes
          refine own_go (A' := (s₁.setTop (mkF m 51 #[.val (.long q0), .second, .val (.long q1), .second, .val (.int p2), .val (.int (1 : Int32)), .val (.int (((p2.toUInt32 >>> ((1 : Int32) &&& 31).toUInt32).toInt32) &&& (3 : Int32))), .unset, .unset, .unset, .unset, .unset] []))) (fun t k => XS.icmpNo X0.here hx rfl (hb hby at_48) rfl (teq hc54).2 k) ?_
          refine own_go (A' := (s₁.setTop (mkF m 66 #[.val (.long q0), .second, .val (.long q1), .second, .val (.int p2), .val (.int (1 : Int32)), .val (.int (((p2.toUInt32 >>> ((1 : Int32) &&& 31).toUInt32).toInt32) &&& (3 : Int32))), .val (.long (q0 + (1 : Int64))), .second, .unset, .unset, .unset] [(.int (1 : Int32))]))) (fun t k => ?_) ?_
          · show Steps p.tables e below (s₁.setTop (mkF m 51 #[.val (.long q0), .second, .val (.long q1), .second, .val (.int p2), .val (.int (1 : Int32)), .val (.int (((p2.toUInt32 >>> ((1 : Int32) &&& 31).toUInt32).toInt32) &&& (3 : Int32))), .unset, .unset, .unset, .unset, .unset] [])) _
            refine XS.lloadN X0.here hx rfl (hb hby at_51) rfl ?_
            show Steps p.tables e below (s₁.setTop (mkF m 52 #[.val (.long q0), .second, .val (.long q1), .second, .val (.int p2), .val (.int (1 : Int32)), .val (.int (((p2.toUInt32 >>> ((1 : Int32) &&& 31).toUInt32).toInt32) &&& (3 : Int32))), .unset, .unset, .unset, .unset, .unset] [(.long q0)])) _
            refine XS.lconst X0.here hx rfl (hb hby at_52) ?_
            show Steps p.tables e below (s₁.setTop (mkF m 53 #[.val (.long q0), .second, .val (.long q1), .second, .val (.int p2), .val (.int (1 : Int32)), .val (.int (((p2.toUInt32 >>> ((1 : Int32) &&& 31).toUInt32).toInt32) &&& (3 : Int32))), .unset, .unset, .unset, .unset, .unset] [(.long (1 : Int64)), (.long q0)])) _
            refine XS.ladd X0.here hx rfl (hb hby at_53) rfl ?_
            show Steps p.tables e below (s₁.setTop (mkF m 54 #[.val (.long q0), .second, .val (.long q1), .second, .val (.int p2), .val (.int (1 : Int32)), .val (.int (((p2.toUInt32 >>> ((1 : Int32) &&& 31).toUInt32).toInt32) &&& (3 : Int32))), .unset, .unset, .unset, .unset, .unset] [(.long (q0 + (1 : Int64)))])) _
            refine XS.lstore X0.here hx rfl (hb hby at_54) rfl (l' := #[.val (.long q0), .second, .val (.long q1), .second, .val (.int p2), .val (.int (1 : Int32)), .val (.int (((p2.toUInt32 >>> ((1 : Int32) &&& 31).toUInt32).toInt32) &&& (3 : Int32))), .val (.long (q0 + (1 : Int64))), .second, .unset, .unset, .unset]) rfl ?_
            show Steps p.tables e below (s₁.setTop (mkF m 56 #[.val (.long q0), .second, .val (.long q1), .second, .val (.int p2), .val (.int (1 : Int32)), .val (.int (((p2.toUInt32 >>> ((1 : Int32) &&& 31).toUInt32).toInt32) &&& (3 : Int32))), .val (.long (q0 + (1 : Int64))), .second, .unset, .unset, .unset] [])) _
            refine XS.goto X0.here hx rfl (pc0 := 56) (pc' := 64) rfl (hb hby at_56) (by decide) (by decide) ?_
            show Steps p.tables e below (s₁.setTop (mkF m 64 #[.val (.long q0), .second, .val (.long q1), .second, .val (.int p2), .val (.int (1 : Int32)), .val (.int (((p2.toUInt32 >>> ((1 : Int32) &&& 31).toUInt32).toInt32) &&& (3 : Int32))), .val (.long (q0 + (1 : Int64))), .second, .unset, .unset, .unset] [])) _
            refine XS.iload X0.here hx rfl (hb hby at_64) rfl ?_
            exact k
          refine own_go (A' := (s₁.setTop (mkF m 69 #[.val (.long q0), .second, .val (.long q1), .second, .val (.int p2), .val (.int (1 : Int32)), .val (.int (((p2.toUInt32 >>> ((1 : Int32) &&& 31).toUInt32).toInt32) &&& (3 : Int32))), .val (.long (q0 + (1 : Int64))), .second, .unset, .unset, .unset] []))) (fun t k => XS.ifNo X0.here hx rfl (hb hby at_66) rfl ((if0 _ _).trans (feq (by decide : ¬ ((1 : Int32) = (0 : Int32)))).1) k) ?_
          obtain ⟨_, _, ⟨T55, L55, k55, n55⟩, -, X55, ⟨Lc55, hQ55, l55, y55, z55⟩, st55⟩ := Jvm.LawKit.callS X0 hx (y := (⟨"java/lang/Long", "valueOf", "(J)Ljava/lang/Long;"⟩ : MethodName)) hown (mvT hZ (hw _ (List.mem_of_getElem? (i := 18) rfl))) (mvT hZ (hw _ (List.mem_of_getElem? (i := 19) rfl))) (mvT hZ (hw _ (List.mem_of_getElem? (i := 20) rfl))) (mvT hZ (hw _ (List.mem_of_getElem? (i := 21) rfl))) (by decide) (backOf (W := 0) (rm4 l Z a0 hw [] (q0 + (1 : Int64)) wC clC h0 n0 Z0 S_cache Ar_C L_C P_C) hZ (hw _ (List.mem_of_getElem? (i := 21) rfl)) (hw _ (List.mem_of_getElem? (i := 20) rfl)) (by decide) (by decide)) (g := (mkF m 71 #[.val (.long q0), .second, .val (.long q1), .second, .val (.int p2), .val (.int (1 : Int32)), .val (.int (((p2.toUInt32 >>> ((1 : Int32) &&& 31).toUInt32).toInt32) &&& (3 : Int32))), .val (.long (q0 + (1 : Int64))), .second, .unset, .unset, .unset] [(.long (q0 + (1 : Int64)))])) rfl (by rw [hml]; rfl) (argsL := [(.long (q0 + (1 : Int64)))]) (rest := []) (lenOf pd_5 rfl) rfl (by show 2 * 0 + _ ≤ _; exact Nat.le_of_eq rfl) (hb hby at_71) (fun _ _ => ⟨rfl, e0, (by decide : 0 + 1 ≤ _), (by decide : 0 + 1 ≤ _)⟩)
          dsimp only [Pt.U, Pt.locs, Pt.cells, Pt.slots] at X55 l55 y55 z55 st55 hQ55
          subst l55 y55 z55
          obtain ⟨c55, rfl, N55q, K55q, E55q, F55q⟩ := hQ55
          have N55 := Fr.app N0 N55q
          have K55 : Keep h0 T55.heap [] := (Keep.refl h0 []).trans K55q all0
          have B55 : Ext h0 T55.heap := own_keep_ext K55
          obtain ⟨T56, h56, X56, e56, E56, A56, D56, -, st56⟩ := newO X55 hx hZ hown (hw _ (List.mem_of_getElem? (i := 0) rfl)) (hw _ (List.mem_of_getElem? (i := 1) rfl)) (hw _ (List.mem_of_getElem? (i := 2) rfl)) rfl (g := (mkF m 80 #[.val (.long q0), .second, .val (.long q1), .second, .val (.int p2), .val (.int (1 : Int32)), .val (.int (((p2.toUInt32 >>> ((1 : Int32) &&& 31).toUInt32).toInt32) &&& (3 : Int32))), .val (.long (q0 + (1 : Int64))), .second, .val (.ref c55), .unset, .unset] [])) rfl (hb hby at_80) (by decide) (by decide)
          obtain ⟨b56, g56⟩ : ∃ z, z = T55.heap.size := ⟨_, rfl⟩
          have sz_b56 : h0.size ≤ b56 := Nat.le_trans K55.1 (Nat.le_of_eq g56.symm)
          have ne_c55_b56 : c55 ≠ b56 := Nat.ne_of_lt (Nat.lt_of_lt_of_le E55q.lt (Nat.le_of_eq g56.symm))
          rw [← g56] at A56 D56 st56
          have K56 : Keep h0 h56 [] := K55.ext E56
          have B56 : Ext h0 h56 := own_keep_ext K56
          have F56_min : Fld Z h56 b56 "com/example/lading/lading/core/Occurrence" "min" "J" (.long (0 : Int64)) := D56 (Or.inr (hw _ (List.mem_of_getElem? (i := 10) rfl))) (ty := .long) (by decide)
          have F56_max : Fld Z h56 b56 "com/example/lading/lading/core/Occurrence" "max" "Ljava/lang/Long;" .null := D56 (Or.inr (hw _ (List.mem_of_getElem? (i := 12) rfl))) (ty := (.object "java/lang/Long")) (by decide)
          obtain ⟨_, _, ⟨T57, L57, k57, n57⟩, -, X57, ⟨Lc57, hQ57, l57, y57, z57⟩, st57⟩ := X56.specialBack hx (y := (⟨"com/example/lading/lading/core/Occurrence", "<init>", "(JLjava/lang/Long;)V"⟩ : MethodName)) rfl hown (mvT hZ (hw _ (List.mem_of_getElem? (i := 3) rfl))) (mvT hZ (hw _ (List.mem_of_getElem? (i := 4) rfl))) (mvT hZ (hw _ (List.mem_of_getElem? (i := 5) rfl))) (by decide) (backOf (W := 1) (rm1 l Z a0 hw [] b56 q0 c55  h56 n0 (Nat.le_trans Z0 K56.1) A56 F56_min F56_max (Nat.le_trans Z0 sz_b56)) hZ (hw _ (List.mem_of_getElem? (i := 5) rfl)) (hw _ (List.mem_of_getElem? (i := 2) rfl)) (by decide) (by decide)) (g := (mkF m 87 #[.val (.long q0), .second, .val (.long q1), .second, .val (.int p2), .val (.int (1 : Int32)), .val (.int (((p2.toUInt32 >>> ((1 : Int32) &&& 31).toUInt32).toInt32) &&& (3 : Int32))), .val (.long (q0 + (1 : Int64))), .second, .val (.ref c55), .unset, .unset] [(.ref c55), (.long q0), (.ref b56), (.ref b56)])) rfl (by rw [hml]; rfl) (Steps.refl _) (a := b56) (argsL := [(.long q0), (.ref c55)]) (rest := [(.ref b56)]) (lenOf pd_3 rfl) rfl (by show 2 * 0 + _ ≤ _; exact Nat.le_of_eq rfl) (hb hby at_87) (fun _ _ => ⟨rfl, e56, (by decide : 2 + 0 ≤ _), (by decide : 3 + 0 ≤ _)⟩)
          dsimp only [Pt.U, Pt.locs, Pt.cells, Pt.slots] at X57 l57 y57 z57 st57 hQ57
          subst l57 y57 z57
          obtain ⟨rfl, N57q, K57q, E57q, F57q, G57q⟩ := hQ57
          have N57 := Fr.app N55 N57q
          have K57 : Keep h0 T57.heap [] := K56.trans K57q (allS (Or.inr sz_b56) all0)
          have B57 : Ext h0 T57.heap := own_keep_ext K57
          refine own_go (A' := (T57.setTop (mkF m 94 #[.val (.long q0), .second, .val (.long q1), .second, .val (.int p2), .val (.int (1 : Int32)), .val (.int (((p2.toUInt32 >>> ((1 : Int32) &&& 31).toUInt32).toInt32) &&& (3 : Int32))), .val (.long (q0 + (1 : Int64))), .second, .val (.ref c55), .val (.ref b56), .unset] [(.int (1 : Int32))]))) (fun t k => ?_) ?_
          · show Steps p.tables e below (s₁.setTop (mkF m 69 #[.val (.long q0), .second, .val (.long q1), .second, .val (.int p2), .val (.int (1 : Int32)), .val (.int (((p2.toUInt32 >>> ((1 : Int32) &&& 31).toUInt32).toInt32) &&& (3 : Int32))), .val (.long (q0 + (1 : Int64))), .second, .unset, .unset, .unset] [])) _
            refine XS.lload X0.here hx rfl (hb hby at_69) rfl ?_
            show Steps p.tables e below (s₁.setTop (mkF m 71 #[.val (.long q0), .second, .val (.long q1), .second, .val (.int p2), .val (.int (1 : Int32)), .val (.int (((p2.toUInt32 >>> ((1 : Int32) &&& 31).toUInt32).toInt32) &&& (3 : Int32))), .val (.long (q0 + (1 : Int64))), .second, .unset, .unset, .unset] [(.long (q0 + (1 : Int64)))])) _
            refine st55 _ ?_
            show Steps p.tables e below (T55.setTop (mkF m 74 #[.val (.long q0), .second, .val (.long q1), .second, .val (.int p2), .val (.int (1 : Int32)), .val (.int (((p2.toUInt32 >>> ((1 : Int32) &&& 31).toUInt32).toInt32) &&& (3 : Int32))), .val (.long (q0 + (1 : Int64))), .second, .unset, .unset, .unset] [(.ref c55)])) _
            refine XS.goto X55.here hx rfl (pc0 := 74) (pc' := 78) rfl (hb hby at_74) (by decide) (by decide) ?_
            show Steps p.tables e below (T55.setTop (mkF m 78 #[.val (.long q0), .second, .val (.long q1), .second, .val (.int p2), .val (.int (1 : Int32)), .val (.int (((p2.toUInt32 >>> ((1 : Int32) &&& 31).toUInt32).toInt32) &&& (3 : Int32))), .val (.long (q0 + (1 : Int64))), .second, .unset, .unset, .unset] [(.ref c55)])) _
            refine XS.astore X55.here hx rfl (hb hby at_78) rfl rfl (l' := #[.val (.long q0), .second, .val (.long q1), .second, .val (.int p2), .val (.int (1 : Int32)), .val (.int (((p2.toUInt32 >>> ((1 : Int32) &&& 31).toUInt32).toInt32) &&& (3 : Int32))), .val (.long (q0 + (1 : Int64))), .second, .val (.ref c55), .unset, .unset]) rfl ?_
            show Steps p.tables e below (T55.setTop (mkF m 80 #[.val (.long q0), .second, .val (.long q1), .second, .val (.int p2), .val (.int (1 : Int32)), .val (.int (((p2.toUInt32 >>> ((1 : Int32) &&& 31).toUInt32).toInt32) &&& (3 : Int32))), .val (.long (q0 + (1 : Int64))), .second, .val (.ref c55), .unset, .unset] [])) _
            refine st56 _ ?_
            show Steps p.tables e below (T56.setTop (mkF m 83 #[.val (.long q0), .second, .val (.long q1), .second, .val (.int p2), .val (.int (1 : Int32)), .val (.int (((p2.toUInt32 >>> ((1 : Int32) &&& 31).toUInt32).toInt32) &&& (3 : Int32))), .val (.long (q0 + (1 : Int64))), .second, .val (.ref c55), .unset, .unset] [(.ref b56)])) _
            refine XS.dup X56.here hx rfl (hb hby at_83) rfl rfl ?_
            show Steps p.tables e below (T56.setTop (mkF m 84 #[.val (.long q0), .second, .val (.long q1), .second, .val (.int p2), .val (.int (1 : Int32)), .val (.int (((p2.toUInt32 >>> ((1 : Int32) &&& 31).toUInt32).toInt32) &&& (3 : Int32))), .val (.long (q0 + (1 : Int64))), .second, .val (.ref c55), .unset, .unset] [(.ref b56), (.ref b56)])) _
            refine XS.lloadN X56.here hx rfl (hb hby at_84) rfl ?_
            show Steps p.tables e below (T56.setTop (mkF m 85 #[.val (.long q0), .second, .val (.long q1), .second, .val (.int p2), .val (.int (1 : Int32)), .val (.int (((p2.toUInt32 >>> ((1 : Int32) &&& 31).toUInt32).toInt32) &&& (3 : Int32))), .val (.long (q0 + (1 : Int64))), .second, .val (.ref c55), .unset, .unset] [(.long q0), (.ref b56), (.ref b56)])) _
            refine XS.aload X56.here hx rfl (hb hby at_85) rfl rfl ?_
            show Steps p.tables e below (T56.setTop (mkF m 87 #[.val (.long q0), .second, .val (.long q1), .second, .val (.int p2), .val (.int (1 : Int32)), .val (.int (((p2.toUInt32 >>> ((1 : Int32) &&& 31).toUInt32).toInt32) &&& (3 : Int32))), .val (.long (q0 + (1 : Int64))), .second, .val (.ref c55), .unset, .unset] [(.ref c55), (.long q0), (.ref b56), (.ref b56)])) _
            refine st57.trans ?_
            show Steps p.tables e below (T57.setTop (mkF m 90 #[.val (.long q0), .second, .val (.long q1), .second, .val (.int p2), .val (.int (1 : Int32)), .val (.int (((p2.toUInt32 >>> ((1 : Int32) &&& 31).toUInt32).toInt32) &&& (3 : Int32))), .val (.long (q0 + (1 : Int64))), .second, .val (.ref c55), .unset, .unset] [(.ref b56)])) _
            refine XS.astore X57.here hx rfl (hb hby at_90) rfl rfl (l' := #[.val (.long q0), .second, .val (.long q1), .second, .val (.int p2), .val (.int (1 : Int32)), .val (.int (((p2.toUInt32 >>> ((1 : Int32) &&& 31).toUInt32).toInt32) &&& (3 : Int32))), .val (.long (q0 + (1 : Int64))), .second, .val (.ref c55), .val (.ref b56), .unset]) rfl ?_
            show Steps p.tables e below (T57.setTop (mkF m 92 #[.val (.long q0), .second, .val (.long q1), .second, .val (.int p2), .val (.int (1 : Int32)), .val (.int (((p2.toUInt32 >>> ((1 : Int32) &&& 31).toUInt32).toInt32) &&& (3 : Int32))), .val (.long (q0 + (1 : Int64))), .second, .val (.ref c55), .val (.ref b56), .unset] [])) _
            refine XS.iload X57.here hx rfl (hb hby at_92) rfl ?_
            exact k
          refine own_go (A' := (T57.setTop (mkF m 97 #[.val (.long q0), .second, .val (.long q1), .second, .val (.int p2), .val (.int (1 : Int32)), .val (.int (((p2.toUInt32 >>> ((1 : Int32) &&& 31).toUInt32).toInt32) &&& (3 : Int32))), .val (.long (q0 + (1 : Int64))), .second, .val (.ref c55), .val (.ref b56), .unset] []))) (fun t k => XS.ifNo X57.here hx rfl (hb hby at_94) rfl ((if0 _ _).trans (feq (by decide : ¬ ((1 : Int32) = (0 : Int32)))).1) k) ?_
          refine own_go (A' := (T57.setTop (mkF m 101 #[.val (.long q0), .second, .val (.long q1), .second, .val (.int p2), .val (.int (1 : Int32)), .val (.int (((p2.toUInt32 >>> ((1 : Int32) &&& 31).toUInt32).toInt32) &&& (3 : Int32))), .val (.long (q0 + (1 : Int64))), .second, .val (.ref c55), .val (.ref b56), .unset] [(.int (lcmpW (q0 + (1 : Int64)) q0))]))) (fun t k => ?_) ?_
          · show Steps p.tables e below (T57.setTop (mkF m 97 #[.val (.long q0), .second, .val (.long q1), .second, .val (.int p2), .val (.int (1 : Int32)), .val (.int (((p2.toUInt32 >>> ((1 : Int32) &&& 31).toUInt32).toInt32) &&& (3 : Int32))), .val (.long (q0 + (1 : Int64))), .second, .val (.ref c55), .val (.ref b56), .unset] [])) _
            refine XS.lload X57.here hx rfl (hb hby at_97) rfl ?_
            show Steps p.tables e below (T57.setTop (mkF m 99 #[.val (.long q0), .second, .val (.long q1), .second, .val (.int p2), .val (.int (1 : Int32)), .val (.int (((p2.toUInt32 >>> ((1 : Int32) &&& 31).toUInt32).toInt32) &&& (3 : Int32))), .val (.long (q0 + (1 : Int64))), .second, .val (.ref c55), .val (.ref b56), .unset] [(.long (q0 + (1 : Int64)))])) _
            refine XS.lloadN X57.here hx rfl (hb hby at_99) rfl ?_
            show Steps p.tables e below (T57.setTop (mkF m 100 #[.val (.long q0), .second, .val (.long q1), .second, .val (.int p2), .val (.int (1 : Int32)), .val (.int (((p2.toUInt32 >>> ((1 : Int32) &&& 31).toUInt32).toInt32) &&& (3 : Int32))), .val (.long (q0 + (1 : Int64))), .second, .val (.ref c55), .val (.ref b56), .unset] [(.long q0), (.long (q0 + (1 : Int64)))])) _
            refine XS.lcmp X57.here hx rfl (hb hby at_100) rfl ?_
            exact k
          by_cases hc58 : (lcmpW (q0 + (1 : Int64)) q0) = (0 : Int32)
          · -- hc58: yes
            refine own_go (A' := (T57.setTop (mkF m 104 #[.val (.long q0), .second, .val (.long q1), .second, .val (.int p2), .val (.int (1 : Int32)), .val (.int (((p2.toUInt32 >>> ((1 : Int32) &&& 31).toUInt32).toInt32) &&& (3 : Int32))), .val (.long (q0 + (1 : Int64))), .second, .val (.ref c55), .val (.ref b56), .unset] []))) (fun t k => XS.ifNo X57.here hx rfl (hb hby at_101) rfl ((if0 _ _).trans (teq hc58).2) k) ?_
            obtain ⟨cq59, kq59, q59a, q59b, q59c⟩ := isOf hZ rfl E57q
            obtain ⟨_, _, ⟨T59, L59, k59, n59⟩, -, X59, ⟨Lc59, hQ59, l59, y59, z59⟩, st59⟩ := X57.virtualBack hx (y := (⟨"com/example/lading/lading/core/Occurrence", "isFixed", "()Z"⟩ : MethodName)) (z := (⟨"com/example/lading/lading/core/Occurrence", "isFixed", "()Z"⟩ : MethodName)) hown (mvT hZ (hw _ (List.mem_of_getElem? (i := 13) rfl))) (mvT hZ (hw _ (List.mem_of_getElem? (i := 14) rfl))) (notFace_of_selects (args := #[]) (mvT hZ (hw _ (List.mem_of_getElem? (i := 16) rfl)))) (mvT hZ (hw _ (List.mem_of_getElem? (i := 16) rfl))) (mvT hZ (hw _ (List.mem_of_getElem? (i := 15) rfl))) (by decide) (backOf (W := 0) (rm3 l Z a0 hw [] b56 q0 c55 (q0 + (1 : Int64)) T57.heap n0 (Nat.le_trans Z0 K57.1) F57q G57q ((E55q.ext E56).keep K57q) ((F55q.ext E56).keep K57q (ninS ne_c55_b56 nin0))) hZ (hw _ (List.mem_of_getElem? (i := 17) rfl)) (hw _ (List.mem_of_getElem? (i := 2) rfl)) (by decide) (by decide)) q59a q59c (g := (mkF m 113 #[.val (.long q0), .second, .val (.long q1), .second, .val (.int p2), .val (.int (1 : Int32)), .val (.int (((p2.toUInt32 >>> ((1 : Int32) &&& 31).toUInt32).toInt32) &&& (3 : Int32))), .val (.long (q0 + (1 : Int64))), .second, .val (.ref c55), .val (.ref b56), .val (.int (1 : Int32))] [(.ref b56)])) rfl (by rw [hml]; rfl) (Steps.refl _) (argsL := []) (rest := []) (lenOf pd_4 rfl) rfl (by show 2 * 0 + _ ≤ _; exact Nat.le_of_eq rfl) (hb hby at_113) (fun _ _ => ⟨rfl, rfl, (by decide : 2 + 0 ≤ _), (by decide : 3 + 0 ≤ _)⟩)
            dsimp only [Pt.U, Pt.locs, Pt.cells, Pt.slots] at X59 l59 y59 z59 st59 hQ59
            subst l59 y59 z59
            obtain ⟨rfl, N59q, e59⟩ := hQ59
            have N59 := Fr.app N57 N59q
            refine own_go (A' := (T59.setTop (mkF m 118 #[.val (.long q0), .second, .val (.long q1), .second, .val (.int p2), .val (.int (1 : Int32)), .val (.int (((p2.toUInt32 >>> ((1 : Int32) &&& 31).toUInt32).toInt32) &&& (3 : Int32))), .val (.long (q0 + (1 : Int64))), .second, .val (.ref c55), .val (.ref b56), .val (.int (1 : Int32))] [(.int (1 : Int32)), (.int (fx (q0 + (1 : Int64)) q0))]))) (fun t k => ?_) ?_
            · show Steps p.tables e below (T57.setTop (mkF m 104 #[.val (.long q0), .second, .val (.long q1), .second, .val (.int p2), .val (.int (1 : Int32)), .val (.int (((p2.toUInt32 >>> ((1 : Int32) &&& 31).toUInt32).toInt32) &&& (3 : Int32))), .val (.long (q0 + (1 : Int64))), .second, .val (.ref c55), .val (.ref b56), .unset] [])) _
              refine XS.iconst X57.here hx rfl (hb hby at_104) ?_
              show Steps p.tables e below (T57.setTop (mkF m 105 #[.val (.long q0), .second, .val (.long q1), .second, .val (.int p2), .val (.int (1 : Int32)), .val (.int (((p2.toUInt32 >>> ((1 : Int32) &&& 31).toUInt32).toInt32) &&& (3 : Int32))), .val (.long (q0 + (1 : Int64))), .second, .val (.ref c55), .val (.ref b56), .unset] [(.int (1 : Int32))])) _
              refine XS.goto X57.here hx rfl (pc0 := 105) (pc' := 109) rfl (hb hby at_105) (by decide) (by decide) ?_
              show Steps p.tables e below (T57.setTop (mkF m 109 #[.val (.long q0), .second, .val (.long q1), .second, .val (.int p2), .val (.int (1 : Int32)), .val (.int (((p2.toUInt32 >>> ((1 : Int32) &&& 31).toUInt32).toInt32) &&& (3 : Int32))), .val (.long (q0 + (1 : Int64))), .second, .val (.ref c55), .val (.ref b56), .unset] [(.int (1 : Int32))])) _
              refine XS.istore X57.here hx rfl (hb hby at_109) rfl (l' := #[.val (.long q0), .second, .val (.long q1), .second, .val (.int p2), .val (.int (1 : Int32)), .val (.int (((p2.toUInt32 >>> ((1 : Int32) &&& 31).toUInt32).toInt32) &&& (3 : Int32))), .val (.long (q0 + (1 : Int64))), .second, .val (.ref c55), .val (.ref b56), .val (.int (1 : Int32))]) rfl ?_
              show Steps p.tables e below (T57.setTop (mkF m 111 #[.val (.long q0), .second, .val (.long q1), .second, .val (.int p2), .val (.int (1 : Int32)), .val (.int (((p2.toUInt32 >>> ((1 : Int32) &&& 31).toUInt32).toInt32) &&& (3 : Int32))), .val (.long (q0 + (1 : Int64))), .second, .val (.ref c55), .val (.ref b56), .val (.int (1 : Int32))] [])) _
              refine XS.aload X57.here hx rfl (hb hby at_111) rfl rfl ?_
              show Steps p.tables e below (T57.setTop (mkF m 113 #[.val (.long q0), .second, .val (.long q1), .second, .val (.int p2), .val (.int (1 : Int32)), .val (.int (((p2.toUInt32 >>> ((1 : Int32) &&& 31).toUInt32).toInt32) &&& (3 : Int32))), .val (.long (q0 + (1 : Int64))), .second, .val (.ref c55), .val (.ref b56), .val (.int (1 : Int32))] [(.ref b56)])) _
              refine st59.trans ?_
              show Steps p.tables e below (T59.setTop (mkF m 116 #[.val (.long q0), .second, .val (.long q1), .second, .val (.int p2), .val (.int (1 : Int32)), .val (.int (((p2.toUInt32 >>> ((1 : Int32) &&& 31).toUInt32).toInt32) &&& (3 : Int32))), .val (.long (q0 + (1 : Int64))), .second, .val (.ref c55), .val (.ref b56), .val (.int (1 : Int32))] [(.int (fx (q0 + (1 : Int64)) q0))])) _
              refine XS.iload X59.here hx rfl (hb hby at_116) rfl ?_
              exact k
            refine own_go (A' := (T59.setTop (mkF m 121 #[.val (.long q0), .second, .val (.long q1), .second, .val (.int p2), .val (.int (1 : Int32)), .val (.int (((p2.toUInt32 >>> ((1 : Int32) &&& 31).toUInt32).toInt32) &&& (3 : Int32))), .val (.long (q0 + (1 : Int64))), .second, .val (.ref c55), .val (.ref b56), .val (.int (1 : Int32))] []))) (fun t k => XS.icmpNo X59.here hx rfl (hb hby at_118) rfl (teq (by rw [fx, if_pos hc58])).2 k) ?_
            refine own_go (A' := (T59.setTop (mkF m 126 #[.val (.long q0), .second, .val (.long q1), .second, .val (.int p2), .val (.int (1 : Int32)), .val (.int (((p2.toUInt32 >>> ((1 : Int32) &&& 31).toUInt32).toInt32) &&& (3 : Int32))), .val (.long (q0 + (1 : Int64))), .second, .val (.ref c55), .val (.ref b56), .val (.int (1 : Int32))] [(.int (1 : Int32))]))) (fun t k => ?_) ?_
            · show Steps p.tables e below (T59.setTop (mkF m 121 #[.val (.long q0), .second, .val (.long q1), .second, .val (.int p2), .val (.int (1 : Int32)), .val (.int (((p2.toUInt32 >>> ((1 : Int32) &&& 31).toUInt32).toInt32) &&& (3 : Int32))), .val (.long (q0 + (1 : Int64))), .second, .val (.ref c55), .val (.ref b56), .val (.int (1 : Int32))] [])) _
              refine XS.iconst X59.here hx rfl (hb hby at_121) ?_
              show Steps p.tables e below (T59.setTop (mkF m 122 #[.val (.long q0), .second, .val (.long q1), .second, .val (.int p2), .val (.int (1 : Int32)), .val (.int (((p2.toUInt32 >>> ((1 : Int32) &&& 31).toUInt32).toInt32) &&& (3 : Int32))), .val (.long (q0 + (1 : Int64))), .second, .val (.ref c55), .val (.ref b56), .val (.int (1 : Int32))] [(.int (1 : Int32))])) _
              refine XS.goto X59.here hx rfl (pc0 := 122) (pc' := 126) rfl (hb hby at_122) (by decide) (by decide) ?_
              exact k
            obtain ⟨fs, hr, hrun, hended, hW, hsame⟩ := X59.leave (v := some (.int (1 : Int32))) (fun h => by rw [Bd.returns] at h; cases h)
            refine ⟨_, _, ?_, hrun, hended, _, _, rfl, ?_, ⟨_, rfl⟩, hW, hsame.mono (by decide) (by decide)⟩
            · show Steps p.tables e below (T59.setTop (mkF m 126 #[.val (.long q0), .second, .val (.long q1), .second, .val (.int p2), .val (.int (1 : Int32)), .val (.int (((p2.toUInt32 >>> ((1 : Int32) &&& 31).toUInt32).toInt32) &&& (3 : Int32))), .val (.long (q0 + (1 : Int64))), .second, .val (.ref c55), .val (.ref b56), .val (.int (1 : Int32))] [(.int (1 : Int32))])) _
              exact retN X59 hx (t := .boolean) Bd.returns (by simp) (hb hby at_126) hr
            · show Q0 Z q0 q1 p2 wC clC h0 n0 _ T59.heap _
              exact ⟨rfl, N59⟩
          · -- hc58: no
            refine own_go (A' := (T57.setTop (mkF m 108 #[.val (.long q0), .second, .val (.long q1), .second, .val (.int p2), .val (.int (1 : Int32)), .val (.int (((p2.toUInt32 >>> ((1 : Int32) &&& 31).toUInt32).toInt32) &&& (3 : Int32))), .val (.long (q0 + (1 : Int64))), .second, .val (.ref c55), .val (.ref b56), .unset] []))) (fun t k => XS.ifYes X57.here hx rfl (pc0 := 101) (pc' := 108) rfl (hb hby at_101) rfl ((if0 _ _).trans (feq hc58).2) (by decide) (by decide) k) ?_
            obtain ⟨cq60, kq60, q60a, q60b, q60c⟩ := isOf hZ rfl E57q
            obtain ⟨_, _, ⟨T60, L60, k60, n60⟩, -, X60, ⟨Lc60, hQ60, l60, y60, z60⟩, st60⟩ := X57.virtualBack hx (y := (⟨"com/example/lading/lading/core/Occurrence", "isFixed", "()Z"⟩ : MethodName)) (z := (⟨"com/example/lading/lading/core/Occurrence", "isFixed", "()Z"⟩ : MethodName)) hown (mvT hZ (hw _ (List.mem_of_getElem? (i := 13) rfl))) (mvT hZ (hw _ (List.mem_of_getElem? (i := 14) rfl))) (notFace_of_selects (args := #[]) (mvT hZ (hw _ (List.mem_of_getElem? (i := 16) rfl)))) (mvT hZ (hw _ (List.mem_of_getElem? (i := 16) rfl))) (mvT hZ (hw _ (List.mem_of_getElem? (i := 15) rfl))) (by decide) (backOf (W := 0) (rm3 l Z a0 hw [] b56 q0 c55 (q0 + (1 : Int64)) T57.heap n0 (Nat.le_trans Z0 K57.1) F57q G57q ((E55q.ext E56).keep K57q) ((F55q.ext E56).keep K57q (ninS ne_c55_b56 nin0))) hZ (hw _ (List.mem_of_getElem? (i := 17) rfl)) (hw _ (List.mem_of_getElem? (i := 2) rfl)) (by decide) (by decide)) q60a q60c (g := (mkF m 113 #[.val (.long q0), .second, .val (.long q1), .second, .val (.int p2), .val (.int (1 : Int32)), .val (.int (((p2.toUInt32 >>> ((1 : Int32) &&& 31).toUInt32).toInt32) &&& (3 : Int32))), .val (.long (q0 + (1 : Int64))), .second, .val (.ref c55), .val (.ref b56), .val (.int (0 : Int32))] [(.ref b56)])) rfl (by rw [hml]; rfl) (Steps.refl _) (argsL := []) (rest := []) (lenOf pd_4 rfl) rfl (by show 2 * 0 + _ ≤ _; exact Nat.le_of_eq rfl) (hb hby at_113) (fun _ _ => ⟨rfl, rfl, (by decide : 2 + 0 ≤ _), (by decide : 3 + 0 ≤ _)⟩)
            dsimp only [Pt.U, Pt.locs, Pt.cells, Pt.slots] at X60 l60 y60 z60 st60 hQ60
            subst l60 y60 z60
            obtain ⟨rfl, N60q, e60⟩ := hQ60
            have N60 := Fr.app N57 N60q
            refine own_go (A' := (T60.setTop (mkF m 118 #[.val (.long q0), .second, .val (.long q1), .second, .val (.int p2), .val (.int (1 : Int32)), .val (.int (((p2.toUInt32 >>> ((1 : Int32) &&& 31).toUInt32).toInt32) &&& (3 : Int32))), .val (.long (q0 + (1 : Int64))), .second, .val (.ref c55), .val (.ref b56), .val (.int (0 : Int32))] [(.int (0 : Int32)), (.int (fx (q0 + (1 : Int64)) q0))]))) (fun t k => ?_) ?_
            · show Steps p.tables e below (T57.setTop (mkF m 108 #[.val (.long q0), .second, .val (.long q1), .second, .val (.int p2), .val (.int (1 : Int32)), .val (.int (((p2.toUInt32 >>> ((1 : Int32) &&& 31).toUInt32).toInt32) &&& (3 : Int32))), .val (.long (q0 + (1 : Int64))), .second, .val (.ref c55), .val (.ref b56), .unset] [])) _
              refine XS.iconst X57.here hx rfl (hb hby at_108) ?_
              show Steps p.tables e below (T57.setTop (mkF m 109 #[.val (.long q0), .second, .val (.long q1), .second, .val (.int p2), .val (.int (1 : Int32)), .val (.int (((p2.toUInt32 >>> ((1 : Int32) &&& 31).toUInt32).toInt32) &&& (3 : Int32))), .val (.long (q0 + (1 : Int64))), .second, .val (.ref c55), .val (.ref b56), .unset] [(.int (0 : Int32))])) _
              refine XS.istore X57.here hx rfl (hb hby at_109) rfl (l' := #[.val (.long q0), .second, .val (.long q1), .second, .val (.int p2), .val (.int (1 : Int32)), .val (.int (((p2.toUInt32 >>> ((1 : Int32) &&& 31).toUInt32).toInt32) &&& (3 : Int32))), .val (.long (q0 + (1 : Int64))), .second, .val (.ref c55), .val (.ref b56), .val (.int (0 : Int32))]) rfl ?_
              show Steps p.tables e below (T57.setTop (mkF m 111 #[.val (.long q0), .second, .val (.long q1), .second, .val (.int p2), .val (.int (1 : Int32)), .val (.int (((p2.toUInt32 >>> ((1 : Int32) &&& 31).toUInt32).toInt32) &&& (3 : Int32))), .val (.long (q0 + (1 : Int64))), .second, .val (.ref c55), .val (.ref b56), .val (.int (0 : Int32))] [])) _
              refine XS.aload X57.here hx rfl (hb hby at_111) rfl rfl ?_
              show Steps p.tables e below (T57.setTop (mkF m 113 #[.val (.long q0), .second, .val (.long q1), .second, .val (.int p2), .val (.int (1 : Int32)), .val (.int (((p2.toUInt32 >>> ((1 : Int32) &&& 31).toUInt32).toInt32) &&& (3 : Int32))), .val (.long (q0 + (1 : Int64))), .second, .val (.ref c55), .val (.ref b56), .val (.int (0 : Int32))] [(.ref b56)])) _
              refine st60.trans ?_
              show Steps p.tables e below (T60.setTop (mkF m 116 #[.val (.long q0), .second, .val (.long q1), .second, .val (.int p2), .val (.int (1 : Int32)), .val (.int (((p2.toUInt32 >>> ((1 : Int32) &&& 31).toUInt32).toInt32) &&& (3 : Int32))), .val (.long (q0 + (1 : Int64))), .second, .val (.ref c55), .val (.ref b56), .val (.int (0 : Int32))] [(.int (fx (q0 + (1 : Int64)) q0))])) _
              refine XS.iload X60.here hx rfl (hb hby at_116) rfl ?_
              exact k
            refine own_go (A' := (T60.setTop (mkF m 121 #[.val (.long q0), .second, .val (.long q1), .second, .val (.int p2), .val (.int (1 : Int32)), .val (.int (((p2.toUInt32 >>> ((1 : Int32) &&& 31).toUInt32).toInt32) &&& (3 : Int32))), .val (.long (q0 + (1 : Int64))), .second, .val (.ref c55), .val (.ref b56), .val (.int (0 : Int32))] []))) (fun t k => XS.icmpNo X60.here hx rfl (hb hby at_118) rfl (teq (by rw [fx, if_neg hc58])).2 k) ?_
            refine own_go (A' := (T60.setTop (mkF m 126 #[.val (.long q0), .second, .val (.long q1), .second, .val (.int p2), .val (.int (1 : Int32)), .val (.int (((p2.toUInt32 >>> ((1 : Int32) &&& 31).toUInt32).toInt32) &&& (3 : Int32))), .val (.long (q0 + (1 : Int64))), .second, .val (.ref c55), .val (.ref b56), .val (.int (0 : Int32))] [(.int (1 : Int32))]))) (fun t k => ?_) ?_
            · show Steps p.tables e below (T60.setTop (mkF m 121 #[.val (.long q0), .second, .val (.long q1), .second, .val (.int p2), .val (.int (1 : Int32)), .val (.int (((p2.toUInt32 >>> ((1 : Int32) &&& 31).toUInt32).toInt32) &&& (3 : Int32))), .val (.long (q0 + (1 : Int64))), .second, .val (.ref c55), .val (.ref b56), .val (.int (0 : Int32))] [])) _
              refine XS.iconst X60.here hx rfl (hb hby at_121) ?_
              show Steps p.tables e below (T60.setTop (mkF m 122 #[.val (.long q0), .second, .val (.long q1), .second, .val (.int p2), .val (.int (1 : Int32)), .val (.int (((p2.toUInt32 >>> ((1 : Int32) &&& 31).toUInt32).toInt32) &&& (3 : Int32))), .val (.long (q0 + (1 : Int64))), .second, .val (.ref c55), .val (.ref b56), .val (.int (0 : Int32))] [(.int (1 : Int32))])) _
              refine XS.goto X60.here hx rfl (pc0 := 122) (pc' := 126) rfl (hb hby at_122) (by decide) (by decide) ?_
              exact k
            obtain ⟨fs, hr, hrun, hended, hW, hsame⟩ := X60.leave (v := some (.int (1 : Int32))) (fun h => by rw [Bd.returns] at h; cases h)
            refine ⟨_, _, ?_, hrun, hended, _, _, rfl, ?_, ⟨_, rfl⟩, hW, hsame.mono (by decide) (by decide)⟩
            · show Steps p.tables e below (T60.setTop (mkF m 126 #[.val (.long q0), .second, .val (.long q1), .second, .val (.int p2), .val (.int (1 : Int32)), .val (.int (((p2.toUInt32 >>> ((1 : Int32) &&& 31).toUInt32).toInt32) &&& (3 : Int32))), .val (.long (q0 + (1 : Int64))), .second, .val (.ref c55), .val (.ref b56), .val (.int (0 : Int32))] [(.int (1 : Int32))])) _
              exact retN X60 hx (t := .boolean) Bd.returns (by simp) (hb hby at_126) hr
            · show Q0 Z q0 q1 p2 wC clC h0 n0 _ T60.heap _
              exact ⟨rfl, N60⟩
        · -- hc54: no
          refine own_go (A' := (s₁.setTop (mkF m 59 #[.val (.long q0), .second, .val (.long q1), .second, .val (.int p2), .val (.int (1 : Int32)), .val (.int (((p2.toUInt32 >>> ((1 : Int32) &&& 31).toUInt32).toInt32) &&& (3 : Int32))), .unset, .unset, .unset, .unset, .unset] []))) (fun t k => XS.icmpYes X0.here hx rfl (pc0 := 48) (pc' := 59) rfl (hb hby at_48) rfl (feq hc54).2 (by decide) (by decide) k) ?_
          refine own_go (A' := (s₁.setTop (mkF m 66 #[.val (.long q0), .second, .val (.long q1), .second, .val (.int p2), .val (.int (1 : Int32)), .val (.int (((p2.toUInt32 >>> ((1 : Int32) &&& 31).toUInt32).toInt32) &&& (3 : Int32))), .val (.long (q0 - (1 : Int64))), .second, .unset, .unset, .unset] [(.int (1 : Int32))]))) (fun t k => ?_) ?_
          · show Steps p.tables e below (s₁.setTop (mkF m 59 #[.val (.long q0), .second, .val (.long q1), .second, .val (.int p2), .val (.int (1 : Int32)), .val (.int (((p2.toUInt32 >>> ((1 : Int32) &&& 31).toUInt32).toInt32) &&& (3 : Int32))), .unset, .unset, .unset, .unset, .unset] [])) _
            refine XS.lloadN X0.here hx rfl (hb hby at_59) rfl ?_
            show Steps p.tables e below (s₁.setTop (mkF m 60 #[.val (.long q0), .second, .val (.long q1), .second, .val (.int p2), .val (.int (1 : Int32)), .val (.int (((p2.toUInt32 >>> ((1 : Int32) &&& 31).toUInt32).toInt32) &&& (3 : Int32))), .unset, .unset, .unset, .unset, .unset] [(.long q0)])) _
            refine XS.lconst X0.here hx rfl (hb hby at_60) ?_
            show Steps p.tables e below (s₁.setTop (mkF m 61 #[.val (.long q0), .second, .val (.long q1), .second, .val (.int p2), .val (.int (1 : Int32)), .val (.int (((p2.toUInt32 >>> ((1 : Int32) &&& 31).toUInt32).toInt32) &&& (3 : Int32))), .unset, .unset, .unset, .unset, .unset] [(.long (1 : Int64)), (.long q0)])) _
            refine XS.lsub X0.here hx rfl (hb hby at_61) rfl ?_
            show Steps p.tables e below (s₁.setTop (mkF m 62 #[.val (.long q0), .second, .val (.long q1), .second, .val (.int p2), .val (.int (1 : Int32)), .val (.int (((p2.toUInt32 >>> ((1 : Int32) &&& 31).toUInt32).toInt32) &&& (3 : Int32))), .unset, .unset, .unset, .unset, .unset] [(.long (q0 - (1 : Int64)))])) _
            refine XS.lstore X0.here hx rfl (hb hby at_62) rfl (l' := #[.val (.long q0), .second, .val (.long q1), .second, .val (.int p2), .val (.int (1 : Int32)), .val (.int (((p2.toUInt32 >>> ((1 : Int32) &&& 31).toUInt32).toInt32) &&& (3 : Int32))), .val (.long (q0 - (1 : Int64))), .second, .unset, .unset, .unset]) rfl ?_
            show Steps p.tables e below (s₁.setTop (mkF m 64 #[.val (.long q0), .second, .val (.long q1), .second, .val (.int p2), .val (.int (1 : Int32)), .val (.int (((p2.toUInt32 >>> ((1 : Int32) &&& 31).toUInt32).toInt32) &&& (3 : Int32))), .val (.long (q0 - (1 : Int64))), .second, .unset, .unset, .unset] [])) _
            refine XS.iload X0.here hx rfl (hb hby at_64) rfl ?_
            exact k
          refine own_go (A' := (s₁.setTop (mkF m 69 #[.val (.long q0), .second, .val (.long q1), .second, .val (.int p2), .val (.int (1 : Int32)), .val (.int (((p2.toUInt32 >>> ((1 : Int32) &&& 31).toUInt32).toInt32) &&& (3 : Int32))), .val (.long (q0 - (1 : Int64))), .second, .unset, .unset, .unset] []))) (fun t k => XS.ifNo X0.here hx rfl (hb hby at_66) rfl ((if0 _ _).trans (feq (by decide : ¬ ((1 : Int32) = (0 : Int32)))).1) k) ?_
          obtain ⟨_, _, ⟨T61, L61, k61, n61⟩, -, X61, ⟨Lc61, hQ61, l61, y61, z61⟩, st61⟩ := Jvm.LawKit.callS X0 hx (y := (⟨"java/lang/Long", "valueOf", "(J)Ljava/lang/Long;"⟩ : MethodName)) hown (mvT hZ (hw _ (List.mem_of_getElem? (i := 18) rfl))) (mvT hZ (hw _ (List.mem_of_getElem? (i := 19) rfl))) (mvT hZ (hw _ (List.mem_of_getElem? (i := 20) rfl))) (mvT hZ (hw _ (List.mem_of_getElem? (i := 21) rfl))) (by decide) (backOf (W := 0) (rm4 l Z a0 hw [] (q0 - (1 : Int64)) wC clC h0 n0 Z0 S_cache Ar_C L_C P_C) hZ (hw _ (List.mem_of_getElem? (i := 21) rfl)) (hw _ (List.mem_of_getElem? (i := 20) rfl)) (by decide) (by decide)) (g := (mkF m 71 #[.val (.long q0), .second, .val (.long q1), .second, .val (.int p2), .val (.int (1 : Int32)), .val (.int (((p2.toUInt32 >>> ((1 : Int32) &&& 31).toUInt32).toInt32) &&& (3 : Int32))), .val (.long (q0 - (1 : Int64))), .second, .unset, .unset, .unset] [(.long (q0 - (1 : Int64)))])) rfl (by rw [hml]; rfl) (argsL := [(.long (q0 - (1 : Int64)))]) (rest := []) (lenOf pd_5 rfl) rfl (by show 2 * 0 + _ ≤ _; exact Nat.le_of_eq rfl) (hb hby at_71) (fun _ _ => ⟨rfl, e0, (by decide : 0 + 1 ≤ _), (by decide : 0 + 1 ≤ _)⟩)
          dsimp only [Pt.U, Pt.locs, Pt.cells, Pt.slots] at X61 l61 y61 z61 st61 hQ61
          subst l61 y61 z61
          obtain ⟨c61, rfl, N61q, K61q, E61q, F61q⟩ := hQ61
          have N61 := Fr.app N0 N61q
          have K61 : Keep h0 T61.heap [] := (Keep.refl h0 []).trans K61q all0
          have B61 : Ext h0 T61.heap := own_keep_ext K61
          obtain ⟨T62, h62, X62, e62, E62, A62, D62, -, st62⟩ := newO X61 hx hZ hown (hw _ (List.mem_of_getElem? (i := 0) rfl)) (hw _ (List.mem_of_getElem? (i := 1) rfl)) (hw _ (List.mem_of_getElem? (i := 2) rfl)) rfl (g := (mkF m 80 #[.val (.long q0), .second, .val (.long q1), .second, .val (.int p2), .val (.int (1 : Int32)), .val (.int (((p2.toUInt32 >>> ((1 : Int32) &&& 31).toUInt32).toInt32) &&& (3 : Int32))), .val (.long (q0 - (1 : Int64))), .second, .val (.ref c61), .unset, .unset] [])) rfl (hb hby at_80) (by decide) (by decide)
          obtain ⟨b62, g62⟩ : ∃ z, z = T61.heap.size := ⟨_, rfl⟩
          have sz_b62 : h0.size ≤ b62 := Nat.le_trans K61.1 (Nat.le_of_eq g62.symm)
          have ne_c61_b62 : c61 ≠ b62 := Nat.ne_of_lt (Nat.lt_of_lt_of_le E61q.lt (Nat.le_of_eq g62.symm))
          rw [← g62] at A62 D62 st62
          have K62 : Keep h0 h62 [] := K61.ext E62
          have B62 : Ext h0 h62 := own_keep_ext K62
          have F62_min : Fld Z h62 b62 "com/example/lading/lading/core/Occurrence" "min" "J" (.long (0 : Int64)) := D62 (Or.inr (hw _ (List.mem_of_getElem? (i := 10) rfl))) (ty := .long) (by decide)
          have F62_max : Fld Z h62 b62 "com/example/lading/lading/core/Occurrence" "max" "Ljava/lang/Long;" .null := D62 (Or.inr (hw _ (List.mem_of_getElem? (i := 12) rfl))) (ty := (.object "java/lang/Long")) (by decide)
          obtain ⟨_, _, ⟨T63, L63, k63, n63⟩, -, X63, ⟨Lc63, hQ63, l63, y63, z63⟩, st63⟩ := X62.specialBack hx (y := (⟨"com/example/lading/lading/core/Occurrence", "<init>", "(JLjava/lang/Long;)V"⟩ : MethodName)) rfl hown (mvT hZ (hw _ (List.mem_of_getElem? (i := 3) rfl))) (mvT hZ (hw _ (List.mem_of_getElem? (i := 4) rfl))) (mvT hZ (hw _ (List.mem_of_getElem? (i := 5) rfl))) (by decide) (backOf (W := 1) (rm1 l Z a0 hw [] b62 q0 c61  h62 n0 (Nat.le_trans Z0 K62.1) A62 F62_min F62_max (Nat.le_trans Z0 sz_b62)) hZ (hw _ (List.mem_of_getElem? (i := 5) rfl)) (hw _ (List.mem_of_getElem? (i := 2) rfl)) (by decide) (by decide)) (g := (mkF m 87 #[.val (.long q0), .second, .val (.long q1), .second, .val (.int p2), .val (.int (1 : Int32)), .val (.int (((p2.toUInt32 >>> ((1 : Int32) &&& 31).toUInt32).toInt32) &&& (3 : Int32))), .val (.long (q0 - (1 : Int64))), .second, .val (.ref c61), .unset, .unset] [(.ref c61), (.long q0), (.ref b62), (.ref b62)])) rfl (by rw [hml]; rfl) (Steps.refl _) (a := b62) (argsL := [(.long q0), (.ref c61)]) (rest := [(.ref b62)]) (lenOf pd_3 rfl) rfl (by show 2 * 0 + _ ≤ _; exact Nat.le_of_eq rfl) (hb hby at_87) (fun _ _ => ⟨rfl, e62, (by decide : 2 + 0 ≤ _), (by decide : 3 + 0 ≤ _)⟩)
          dsimp only [Pt.U, Pt.locs, Pt.cells, Pt.slots] at X63 l63 y63 z63 st63 hQ63
          subst l63 y63 z63
          obtain ⟨rfl, N63q, K63q, E63q, F63q, G63q⟩ := hQ63
          have N63 := Fr.app N61 N63q
          have K63 : Keep h0 T63.heap [] := K62.trans K63q (allS (Or.inr sz_b62) all0)
          have B63 : Ext h0 T63.heap := own_keep_ext K63
          refine own_go (A' := (T63.setTop (mkF m 94 #[.val (.long q0), .second, .val (.long q1), .second, .val (.int p2), .val (.int (1 : Int32)), .val (.int (((p2.toUInt32 >>> ((1 : Int32) &&& 31).toUInt32).toInt32) &&& (3 : Int32))), .val (.long (q0 - (1 : Int64))), .second, .val (.ref c61), .val (.ref b62), .unset] [(.int (1 : Int32))]))) (fun t k => ?_) ?_
          · show Steps p.tables e below (s₁.setTop (mkF m 69 #[.val (.long q0), .second, .val (.long q1), .second, .val (.int p2), .val (.int (1 : Int32)), .val (.int (((p2.toUInt32 >>> ((1 : Int32) &&& 31).toUInt32).toInt32) &&& (3 : Int32))), .val (.long (q0 - (1 : Int64))), .second, .unset, .unset, .unset] [])) _
            refine XS.lload X0.here hx rfl (hb hby at_69) rfl ?_
            show Steps p.tables e below (s₁.setTop (mkF m 71 #[.val (.long q0), .second, .val (.long q1), .second, .val (.int p2), .val (.int (1 : Int32)), .val (.int (((p2.toUInt32 >>> ((1 : Int32) &&& 31).toUInt32).toInt32) &&& (3 : Int32))), .val (.long (q0 - (1 : Int64))), .second, .unset, .unset, .unset] [(.long (q0 - (1 : Int64)))])) _
            refine st61 _ ?_
            show Steps p.tables e below (T61.setTop (mkF m 74 #[.val (.long q0), .second, .val (.long q1), .second, .val (.int p2), .val (.int (1 : Int32)), .val (.int (((p2.toUInt32 >>> ((1 : Int32) &&& 31).toUInt32).toInt32) &&& (3 : Int32))), .val (.long (q0 - (1 : Int64))), .second, .unset, .unset, .unset] [(.ref c61)])) _
            refine XS.goto X61.here hx rfl (pc0 := 74) (pc' := 78) rfl (hb hby at_74) (by decide) (by decide) ?_
            show Steps p.tables e below (T61.setTop (mkF m 78 #[.val (.long q0), .second, .val (.long q1), .second, .val (.int p2), .val (.int (1 : Int32)), .val (.int (((p2.toUInt32 >>> ((1 : Int32) &&& 31).toUInt32).toInt32) &&& (3 : Int32))), .val (.long (q0 - (1 : Int64))), .second, .unset, .unset, .unset] [(.ref c61)])) _
            refine XS.astore X61.here hx rfl (hb hby at_78) rfl rfl (l' := #[.val (.long q0), .second, .val (.long q1), .second, .val (.int p2), .val (.int (1 : Int32)), .val (.int (((p2.toUInt32 >>> ((1 : Int32) &&& 31).toUInt32).toInt32) &&& (3 : Int32))), .val (.long (q0 - (1 : Int64))), .second, .val (.ref c61), .unset, .unset]) rfl ?_
            show Steps p.tables e below (T61.setTop (mkF m 80 #[.val (.long q0), .second, .val (.long q1), .second, .val (.int p2), .val (.int (1 : Int32)), .val (.int (((p2.toUInt32 >>> ((1 : Int32) &&& 31).toUInt32).toInt32) &&& (3 : Int32))), .val (.long (q0 - (1 : Int64))), .second, .val (.ref c61), .unset, .unset] [])) _
            refine st62 _ ?_
            show Steps p.tables e below (T62.setTop (mkF m 83 #[.val (.long q0), .second, .val (.long q1), .second, .val (.int p2), .val (.int (1 : Int32)), .val (.int (((p2.toUInt32 >>> ((1 : Int32) &&& 31).toUInt32).toInt32) &&& (3 : Int32))), .val (.long (q0 - (1 : Int64))), .second, .val (.ref c61), .unset, .unset] [(.ref b62)])) _
            refine XS.dup X62.here hx rfl (hb hby at_83) rfl rfl ?_
            show Steps p.tables e below (T62.setTop (mkF m 84 #[.val (.long q0), .second, .val (.long q1), .second, .val (.int p2), .val (.int (1 : Int32)), .val (.int (((p2.toUInt32 >>> ((1 : Int32) &&& 31).toUInt32).toInt32) &&& (3 : Int32))), .val (.long (q0 - (1 : Int64))), .second, .val (.ref c61), .unset, .unset] [(.ref b62), (.ref b62)])) _
            refine XS.lloadN X62.here hx rfl (hb hby at_84) rfl ?_
            show Steps p.tables e below (T62.setTop (mkF m 85 #[.val (.long q0), .second, .val (.long q1), .second, .val (.int p2), .val (.int (1 : Int32)), .val (.int (((p2.toUInt32 >>> ((1 : Int32) &&& 31).toUInt32).toInt32) &&& (3 : Int32))), .val (.long (q0 - (1 : Int64))), .second, .val (.ref c61), .unset, .unset] [(.long q0), (.ref b62), (.ref b62)])) _
            refine XS.aload X62.here hx rfl (hb hby at_85) rfl rfl ?_
            show Steps p.tables e below (T62.setTop (mkF m 87 #[.val (.long q0), .second, .val (.long q1), .second, .val (.int p2), .val (.int (1 : Int32)), .val (.int (((p2.toUInt32 >>> ((1 : Int32) &&& 31).toUInt32).toInt32) &&& (3 : Int32))), .val (.long (q0 - (1 : Int64))), .second, .val (.ref c61), .unset, .unset] [(.ref c61), (.long q0), (.ref b62), (.ref b62)])) _
            refine st63.trans ?_
            show Steps p.tables e below (T63.setTop (mkF m 90 #[.val (.long q0), .second, .val (.long q1), .second, .val (.int p2), .val (.int (1 : Int32)), .val (.int (((p2.toUInt32 >>> ((1 : Int32) &&& 31).toUInt32).toInt32) &&& (3 : Int32))), .val (.long (q0 - (1 : Int64))), .second, .val (.ref c61), .unset, .unset] [(.ref b62)])) _
            refine XS.astore X63.here hx rfl (hb hby at_90) rfl rfl (l' := #[.val (.long q0), .second, .val (.long q1), .second, .val (.int p2), .val (.int (1 : Int32)), .val (.int (((p2.toUInt32 >>> ((1 : Int32) &&& 31).toUInt32).toInt32) &&& (3 : Int32))), .val (.long (q0 - (1 : Int64))), .second, .val (.ref c61), .val (.ref b62), .unset]) rfl ?_
            show Steps p.tables e below (T63.setTop (mkF m 92 #[.val (.long q0), .second, .val (.long q1), .second, .val (.int p2), .val (.int (1 : Int32)), .val (.int (((p2.toUInt32 >>> ((1 : Int32) &&& 31).toUInt32).toInt32) &&& (3 : Int32))), .val (.long (q0 - (1 : Int64))), .second, .val (.ref c61), .val (.ref b62), .unset] [])) _
            refine XS.iload X63.here hx rfl (hb hby at_92) rfl ?_
            exact k
          refine own_go (A' := (T63.setTop (mkF m 97 #[.val (.long q0), .second, .val (.long q1), .second, .val (.int p2), .val (.int (1 : Int32)), .val (.int (((p2.toUInt32 >>> ((1 : Int32) &&& 31).toUInt32).toInt32) &&& (3 : Int32))), .val (.long (q0 - (1 : Int64))), .second, .val (.ref c61), .val (.ref b62), .unset] []))) (fun t k => XS.ifNo X63.here hx rfl (hb hby at_94) rfl ((if0 _ _).trans (feq (by decide : ¬ ((1 : Int32) = (0 : Int32)))).1) k) ?_
          refine own_go (A' := (T63.setTop (mkF m 101 #[.val (.long q0), .second, .val (.long q1), .second, .val (.int p2), .val (.int (1 : Int32)), .val (.int (((p2.toUInt32 >>> ((1 : Int32) &&& 31).toUInt32).toInt32) &&& (3 : Int32))), .val (.long (q0 - (1 : Int64))), .second, .val (.ref c61), .val (.ref b62), .unset] [(.int (lcmpW (q0 - (1 : Int64)) q0))]))) (fun t k => ?_) ?_
          · show Steps p.tables e below (T63.setTop (mkF m 97 #[.val (.long q0), .second, .val (.long q1), .second, .val (.int p2), .val (.int (1 : Int32)), .val (.int (((p2.toUInt32 >>> ((1 : Int32) &&& 31).toUInt32).toInt32) &&& (3 : Int32))), .val (.long (q0 - (1 : Int64))), .second, .val (.ref c61), .val (.ref b62), .unset] [])) _
            refine XS.lload X63.here hx rfl (hb hby at_97) rfl ?_
            show Steps p.tables e below (T63.setTop (mkF m 99 #[.val (.long q0), .second, .val (.long q1), .second, .val (.int p2), .val (.int (1 : Int32)), .val (.int (((p2.toUInt32 >>> ((1 : Int32) &&& 31).toUInt32).toInt32) &&& (3 : Int32))), .val (.long (q0 - (1 : Int64))), .second, .val (.ref c61), .val (.ref b62), .unset] [(.long (q0 - (1 : Int64)))])) _
            refine XS.lloadN X63.here hx rfl (hb hby at_99) rfl ?_
            show Steps p.tables e below (T63.setTop (mkF m 100 #[.val (.long q0), .second, .val (.long q1), .second, .val (.int p2), .val (.int (1 : Int32)), .val (.int (((p2.toUInt32 >>> ((1 : Int32) &&& 31).toUInt32).toInt32) &&& (3 : Int32))), .val (.long (q0 - (1 : Int64))), .second, .val (.ref c61), .val (.ref b62), .unset] [(.long q0), (.long (q0 - (1 : Int64)))])) _
            refine XS.lcmp X63.here hx rfl (hb hby at_100) rfl ?_
            exact k
          by_cases hc64 : (lcmpW (q0 - (1 : Int64)) q0) = (0 : Int32)
          · -- hc64: yes
            refine own_go (A' := (T63.setTop (mkF m 104 #[.val (.long q0), .second, .val (.long q1), .second, .val (.int p2), .val (.int (1 : Int32)), .val (.int (((p2.toUInt32 >>> ((1 : Int32) &&& 31).toUInt32).toInt32) &&& (3 : Int32))), .val (.long (q0 - (1 : Int64))), .second, .val (.ref c61), .val (.ref b62), .unset] []))) (fun t k => XS.ifNo X63.here hx rfl (hb hby at_101) rfl ((if0 _ _).trans (teq hc64).2) k) ?_
            obtain ⟨cq65, kq65, q65a, q65b, q65c⟩ := isOf hZ rfl E63q
            obtain ⟨_, _, ⟨T65, L65, k65, n65⟩, -, X65, ⟨Lc65, hQ65, l65, y65, z65⟩, st65⟩ := X63.virtualBack hx (y := (⟨"com/example/lading/lading/core/Occurrence", "isFixed", "()Z"⟩ : MethodName)) (z := (⟨"com/example/lading/lading/core/Occurrence", "isFixed", "()Z"⟩ : MethodName)) hown (mvT hZ (hw _ (List.mem_of_getElem? (i := 13) rfl))) (mvT hZ (hw _ (List.mem_of_getElem? (i := 14) rfl))) (notFace_of_selects (args := #[]) (mvT hZ (hw _ (List.mem_of_getElem? (i := 16) rfl)))) (mvT hZ (hw _ (List.mem_of_getElem? (i := 16) rfl))) (mvT hZ (hw _ (List.mem_of_getElem? (i := 15) rfl))) (by decide) (backOf (W := 0) (rm3 l Z a0 hw [] b62 q0 c61 (q0 - (1 : Int64)) T63.heap n0 (Nat.le_trans Z0 K63.1) F63q G63q ((E61q.ext E62).keep K63q) ((F61q.ext E62).keep K63q (ninS ne_c61_b62 nin0))) hZ (hw _ (List.mem_of_getElem? (i := 17) rfl)) (hw _ (List.mem_of_getElem? (i := 2) rfl)) (by decide) (by decide)) q65a q65c (g := (mkF m 113 #[.val (.long q0), .second, .val (.long q1), .second, .val (.int p2), .val (.int (1 : Int32)), .val (.int (((p2.toUInt32 >>> ((1 : Int32) &&& 31).toUInt32).toInt32) &&& (3 : Int32))), .val (.long (q0 - (1 : Int64))), .second, .val (.ref c61), .val (.ref b62), .val (.int (1 : Int32))] [(.ref b62)])) rfl (by rw [hml]; rfl) (Steps.refl _) (argsL := []) (rest := []) (lenOf pd_4 rfl) rfl (by show 2 * 0 + _ ≤ _; exact Nat.le_of_eq rfl) (hb hby at_113) (fun _ _ => ⟨rfl, rfl, (by decide : 2 + 0 ≤ _), (by decide : 3 + 0 ≤ _)⟩)
            dsimp only [Pt.U, Pt.locs, Pt.cells, Pt.slots] at X65 l65 y65 z65 st65 hQ65
            subst l65 y65 z65
            obtain ⟨rfl, N65q, e65⟩ := hQ65
            have N65 := Fr.app N63 N65q
            refine own_go (A' := (T65.setTop (mkF m 118 #[.val (.long q0), .second, .val (.long q1), .second, .val (.int p2), .val (.int (1 : Int32)), .val (.int (((p2.toUInt32 >>> ((1 : Int32) &&& 31).toUInt32).toInt32) &&& (3 : Int32))), .val (.long (q0 - (1 : Int64))), .second, .val (.ref c61), .val (.ref b62), .val (.int (1 : Int32))] [(.int (1 : Int32)), (.int (fx (q0 - (1 : Int64)) q0))]))) (fun t k => ?_) ?_
            · show Steps p.tables e below (T63.setTop (mkF m 104 #[.val (.long q0), .second, .val (.long q1), .second, .val (.int p2), .val (.int (1 : Int32)), .val (.int (((p2.toUInt32 >>> ((1 : Int32) &&& 31).toUInt32).toInt32) &&& (3 : Int32))), .val (.long (q0 - (1 : Int64))), .second, .val (.ref c61), .val (.ref b62), .unset] [])) _
              refine XS.iconst X63.here hx rfl (hb hby at_104) ?_
              show Steps p.tables e below (T63.setTop (mkF m 105 #[.val (.long q0), .second, .val (.long q1), .second, .val (.int p2), .val (.int (1 : Int32)), .val (.int (((p2.toUInt32 >>> ((1 : Int32) &&& 31).toUInt32).toInt32) &&& (3 : Int32))), .val (.long (q0 - (1 : Int64))), .second, .val (.ref c61), .val (.ref b62), .unset] [(.int (1 : Int32))])) _
              refine XS.goto X63.here hx rfl (pc0 := 105) (pc' := 109) rfl (hb hby at_105) (by decide) (by decide) ?_
              show Steps p.tables e below (T63.setTop (mkF m 109 #[.val (.long q0), .second, .val (.long q1), .second, .val (.int p2), .val (.int (1 : Int32)), .val (.int (((p2.toUInt32 >>> ((1 : Int32) &&& 31).toUInt32).toInt32) &&& (3 : Int32))), .val (.long (q0 - (1 : Int64))), .second, .val (.ref c61), .val (.ref b62), .unset] [(.int (1 : Int32))])) _
              refine XS.istore X63.here hx rfl (hb hby at_109) rfl (l' := #[.val (.long q0), .second, .val (.long q1), .second, .val (.int p2), .val (.int (1 : Int32)), .val (.int (((p2.toUInt32 >>> ((1 : Int32) &&& 31).toUInt32).toInt32) &&& (3 : Int32))), .val (.long (q0 - (1 : Int64))), .second, .val (.ref c61), .val (.ref b62), .val (.int (1 : Int32))]) rfl ?_
              show Steps p.tables e below (T63.setTop (mkF m 111 #[.val (.long q0), .second, .val (.long q1), .second, .val (.int p2), .val (.int (1 : Int32)), .val (.int (((p2.toUInt32 >>> ((1 : Int32) &&& 31).toUInt32).toInt32) &&& (3 : Int32))), .val (.long (q0 - (1 : Int64))), .second, .val (.ref c61), .val (.ref b62), .val (.int (1 : Int32))] [])) _
              refine XS.aload X63.here hx rfl (hb hby at_111) rfl rfl ?_
              show Steps p.tables e below (T63.setTop (mkF m 113 #[.val (.long q0), .second, .val (.long q1), .second, .val (.int p2), .val (.int (1 : Int32)), .val (.int (((p2.toUInt32 >>> ((1 : Int32) &&& 31).toUInt32).toInt32) &&& (3 : Int32))), .val (.long (q0 - (1 : Int64))), .second, .val (.ref c61), .val (.ref b62), .val (.int (1 : Int32))] [(.ref b62)])) _
              refine st65.trans ?_
              show Steps p.tables e below (T65.setTop (mkF m 116 #[.val (.long q0), .second, .val (.long q1), .second, .val (.int p2), .val (.int (1 : Int32)), .val (.int (((p2.toUInt32 >>> ((1 : Int32) &&& 31).toUInt32).toInt32) &&& (3 : Int32))), .val (.long (q0 - (1 : Int64))), .second, .val (.ref c61), .val (.ref b62), .val (.int (1 : Int32))] [(.int (fx (q0 - (1 : Int64)) q0))])) _
              refine XS.iload X65.here hx rfl (hb hby at_116) rfl ?_
              exact k
            refine own_go (A' := (T65.setTop (mkF m 121 #[.val (.long q0), .second, .val (.long q1), .second, .val (.int p2), .val (.int (1 : Int32)), .val (.int (((p2.toUInt32 >>> ((1 : Int32) &&& 31).toUInt32).toInt32) &&& (3 : Int32))), .val (.long (q0 - (1 : Int64))), .second, .val (.ref c61), .val (.ref b62), .val (.int (1 : Int32))] []))) (fun t k => XS.icmpNo X65.here hx rfl (hb hby at_118) rfl (teq (by rw [fx, if_pos hc64])).2 k) ?_
            refine own_go (A' := (T65.setTop (mkF m 126 #[.val (.long q0), .second, .val (.long q1), .second, .val (.int p2), .val (.int (1 : Int32)), .val (.int (((p2.toUInt32 >>> ((1 : Int32) &&& 31).toUInt32).toInt32) &&& (3 : Int32))), .val (.long (q0 - (1 : Int64))), .second, .val (.ref c61), .val (.ref b62), .val (.int (1 : Int32))] [(.int (1 : Int32))]))) (fun t k => ?_) ?_
            · show Steps p.tables e below (T65.setTop (mkF m 121 #[.val (.long q0), .second, .val (.long q1), .second, .val (.int p2), .val (.int (1 : Int32)), .val (.int (((p2.toUInt32 >>> ((1 : Int32) &&& 31).toUInt32).toInt32) &&& (3 : Int32))), .val (.long (q0 - (1 : Int64))), .second, .val (.ref c61), .val (.ref b62), .val (.int (1 : Int32))] [])) _
              refine XS.iconst X65.here hx rfl (hb hby at_121) ?_
              show Steps p.tables e below (T65.setTop (mkF m 122 #[.val (.long q0), .second, .val (.long q1), .second, .val (.int p2), .val (.int (1 : Int32)), .val (.int (((p2.toUInt32 >>> ((1 : Int32) &&& 31).toUInt32).toInt32) &&& (3 : Int32))), .val (.long (q0 - (1 : Int64))), .second, .val (.ref c61), .val (.ref b62), .val (.int (1 : Int32))] [(.int (1 : Int32))])) _
              refine XS.goto X65.here hx rfl (pc0 := 122) (pc' := 126) rfl (hb hby at_122) (by decide) (by decide) ?_
              exact k
            obtain ⟨fs, hr, hrun, hended, hW, hsame⟩ := X65.leave (v := some (.int (1 : Int32))) (fun h => by rw [Bd.returns] at h; cases h)
            refine ⟨_, _, ?_, hrun, hended, _, _, rfl, ?_, ⟨_, rfl⟩, hW, hsame.mono (by decide) (by decide)⟩
            · show Steps p.tables e below (T65.setTop (mkF m 126 #[.val (.long q0), .second, .val (.long q1), .second, .val (.int p2), .val (.int (1 : Int32)), .val (.int (((p2.toUInt32 >>> ((1 : Int32) &&& 31).toUInt32).toInt32) &&& (3 : Int32))), .val (.long (q0 - (1 : Int64))), .second, .val (.ref c61), .val (.ref b62), .val (.int (1 : Int32))] [(.int (1 : Int32))])) _
              exact retN X65 hx (t := .boolean) Bd.returns (by simp) (hb hby at_126) hr
            · show Q0 Z q0 q1 p2 wC clC h0 n0 _ T65.heap _
              exact ⟨rfl, N65⟩
          · -- hc64: no
            refine own_go (A' := (T63.setTop (mkF m 108 #[.val (.long q0), .second, .val (.long q1), .second, .val (.int p2), .val (.int (1 : Int32)), .val (.int (((p2.toUInt32 >>> ((1 : Int32) &&& 31).toUInt32).toInt32) &&& (3 : Int32))), .val (.long (q0 - (1 : Int64))), .second, .val (.ref c61), .val (.ref b62), .unset] []))) (fun t k => XS.ifYes X63.here hx rfl (pc0 := 101) (pc' := 108) rfl (hb hby at_101) rfl ((if0 _ _).trans (feq hc64).2) (by decide) (by decide) k) ?_
            obtain ⟨cq66, kq66, q66a, q66b, q66c⟩ := isOf hZ rfl E63q
            obtain ⟨_, _, ⟨T66, L66, k66, n66⟩, -, X66, ⟨Lc66, hQ66, l66, y66, z66⟩, st66⟩ := X63.virtualBack hx (y := (⟨"com/example/lading/lading/core/Occurrence", "isFixed", "()Z"⟩ : MethodName)) (z := (⟨"com/example/lading/lading/core/Occurrence", "isFixed", "()Z"⟩ : MethodName)) hown (mvT hZ (hw _ (List.mem_of_getElem? (i := 13) rfl))) (mvT hZ (hw _ (List.mem_of_getElem? (i := 14) rfl))) (notFace_of_selects (args := #[]) (mvT hZ (hw _ (List.mem_of_getElem? (i := 16) rfl)))) (mvT hZ (hw _ (List.mem_of_getElem? (i := 16) rfl))) (mvT hZ (hw _ (List.mem_of_getElem? (i := 15) rfl))) (by decide) (backOf (W := 0) (rm3 l Z a0 hw [] b62 q0 c61 (q0 - (1 : Int64)) T63.heap n0 (Nat.le_trans Z0 K63.1) F63q G63q ((E61q.ext E62).keep K63q) ((F61q.ext E62).keep K63q (ninS ne_c61_b62 nin0))) hZ (hw _ (List.mem_of_getElem? (i := 17) rfl)) (hw _ (List.mem_of_getElem? (i := 2) rfl)) (by decide) (by decide)) q66a q66c (g := (mkF m 113 #[.val (.long q0), .second, .val (.long q1), .second, .val (.int p2), .val (.int (1 : Int32)), .val (.int (((p2.toUInt32 >>> ((1 : Int32) &&& 31).toUInt32).toInt32) &&& (3 : Int32))), .val (.long (q0 - (1 : Int64))), .second, .val (.ref c61), .val (.ref b62), .val (.int (0 : Int32))] [(.ref b62)])) rfl (by rw [hml]; rfl) (Steps.refl _) (argsL := []) (rest := []) (lenOf pd_4 rfl) rfl (by show 2 * 0 + _ ≤ _; exact Nat.le_of_eq rfl) (hb hby at_113) (fun _ _ => ⟨rfl, rfl, (by decide : 2 + 0 ≤ _), (by decide : 3 + 0 ≤ _)⟩)
            dsimp only [Pt.U, Pt.locs, Pt.cells, Pt.slots] at X66 l66 y66 z66 st66 hQ66
            subst l66 y66 z66
            obtain ⟨rfl, N66q, e66⟩ := hQ66
            have N66 := Fr.app N63 N66q
            refine own_go (A' := (T66.setTop (mkF m 118 #[.val (.long q0), .second, .val (.long q1), .second, .val (.int p2), .val (.int (1 : Int32)), .val (.int (((p2.toUInt32 >>> ((1 : Int32) &&& 31).toUInt32).toInt32) &&& (3 : Int32))), .val (.long (q0 - (1 : Int64))), .second, .val (.ref c61), .val (.ref b62), .val (.int (0 : Int32))] [(.int (0 : Int32)), (.int (fx (q0 - (1 : Int64)) q0))]))) (fun t k => ?_) ?_
            · show Steps p.tables e below (T63.setTop (mkF m 108 #[.val (.long q0), .second, .val (.long q1), .second, .val (.int p2), .val (.int (1 : Int32)), .val (.int (((p2.toUInt32 >>> ((1 : Int32) &&& 31).toUInt32).toInt32) &&& (3 : Int32))), .val (.long (q0 - (1 : Int64))), .second, .val (.ref c61), .val (.ref b62), .unset] [])) _
              refine XS.iconst X63.here hx rfl (hb hby at_108) ?_
              show Steps p.tables e below (T63.setTop (mkF m 109 #[.val (.long q0), .second, .val (.long q1), .second, .val (.int p2), .val (.int (1 : Int32)), .val (.int (((p2.toUInt32 >>> ((1 : Int32) &&& 31).toUInt32).toInt32) &&& (3 : Int32))), .val (.long (q0 - (1 : Int64))), .second, .val (.ref c61), .val (.ref b62), .unset] [(.int (0 : Int32))])) _
              refine XS.istore X63.here hx rfl (hb hby at_109) rfl (l' := #[.val (.long q0), .second, .val (.long q1), .second, .val (.int p2), .val (.int (1 : Int32)), .val (.int (((p2.toUInt32 >>> ((1 : Int32) &&& 31).toUInt32).toInt32) &&& (3 : Int32))), .val (.long (q0 - (1 : Int64))), .second, .val (.ref c61), .val (.ref b62), .val (.int (0 : Int32))]) rfl ?_
              show Steps p.tables e below (T63.setTop (mkF m 111 #[.val (.long q0), .second, .val (.long q1), .second, .val (.int p2), .val (.int (1 : Int32)), .val (.int (((p2.toUInt32 >>> ((1 : Int32) &&& 31).toUInt32).toInt32) &&& (3 : Int32))), .val (.long (q0 - (1 : Int64))), .second, .val (.ref c61), .val (.ref b62), .val (.int (0 : Int32))] [])) _
              refine XS.aload X63.here hx rfl (hb hby at_111) rfl rfl ?_
              show Steps p.tables e below (T63.setTop (mkF m 113 #[.val (.long q0), .second, .val (.long q1), .second, .val (.int p2), .val (.int (1 : Int32)), .val (.int (((p2.toUInt32 >>> ((1 : Int32) &&& 31).toUInt32).toInt32) &&& (3 : Int32))), .val (.long (q0 - (1 : Int64))), .second, .val (.ref c61), .val (.ref b62), .val (.int (0 : Int32))] [(.ref b62)])) _
              refine st66.trans ?_
              show Steps p.tables e below (T66.setTop (mkF m 116 #[.val (.long q0), .second, .val (.long q1), .second, .val (.int p2), .val (.int (1 : Int32)), .val (.int (((p2.toUInt32 >>> ((1 : Int32) &&& 31).toUInt32).toInt32) &&& (3 : Int32))), .val (.long (q0 - (1 : Int64))), .second, .val (.ref c61), .val (.ref b62), .val (.int (0 : Int32))] [(.int (fx (q0 - (1 : Int64)) q0))])) _
              refine XS.iload X66.here hx rfl (hb hby at_116) rfl ?_
              exact k
            refine own_go (A' := (T66.setTop (mkF m 121 #[.val (.long q0), .second, .val (.long q1), .second, .val (.int p2), .val (.int (1 : Int32)), .val (.int (((p2.toUInt32 >>> ((1 : Int32) &&& 31).toUInt32).toInt32) &&& (3 : Int32))), .val (.long (q0 - (1 : Int64))), .second, .val (.ref c61), .val (.ref b62), .val (.int (0 : Int32))] []))) (fun t k => XS.icmpNo X66.here hx rfl (hb hby at_118) rfl (teq (by rw [fx, if_neg hc64])).2 k) ?_
            refine own_go (A' := (T66.setTop (mkF m 126 #[.val (.long q0), .second, .val (.long q1), .second, .val (.int p2), .val (.int (1 : Int32)), .val (.int (((p2.toUInt32 >>> ((1 : Int32) &&& 31).toUInt32).toInt32) &&& (3 : Int32))), .val (.long (q0 - (1 : Int64))), .second, .val (.ref c61), .val (.ref b62), .val (.int (0 : Int32))] [(.int (1 : Int32))]))) (fun t k => ?_) ?_
            · show Steps p.tables e below (T66.setTop (mkF m 121 #[.val (.long q0), .second, .val (.long q1), .second, .val (.int p2), .val (.int (1 : Int32)), .val (.int (((p2.toUInt32 >>> ((1 : Int32) &&& 31).toUInt32).toInt32) &&& (3 : Int32))), .val (.long (q0 - (1 : Int64))), .second, .val (.ref c61), .val (.ref b62), .val (.int (0 : Int32))] [])) _
              refine XS.iconst X66.here hx rfl (hb hby at_121) ?_
              show Steps p.tables e below (T66.setTop (mkF m 122 #[.val (.long q0), .second, .val (.long q1), .second, .val (.int p2), .val (.int (1 : Int32)), .val (.int (((p2.toUInt32 >>> ((1 : Int32) &&& 31).toUInt32).toInt32) &&& (3 : Int32))), .val (.long (q0 - (1 : Int64))), .second, .val (.ref c61), .val (.ref b62), .val (.int (0 : Int32))] [(.int (1 : Int32))])) _
              refine XS.goto X66.here hx rfl (pc0 := 122) (pc' := 126) rfl (hb hby at_122) (by decide) (by decide) ?_
              exact k
            obtain ⟨fs, hr, hrun, hended, hW, hsame⟩ := X66.leave (v := some (.int (1 : Int32))) (fun h => by rw [Bd.returns] at h; cases h)
            refine ⟨_, _, ?_, hrun, hended, _, _, rfl, ?_, ⟨_, rfl⟩, hW, hsame.mono (by decide) (by decide)⟩
            · show Steps p.tables e below (T66.setTop (mkF m 126 #[.val (.long q0), .second, .val (.long q1), .second, .val (.int p2), .val (.int (1 : Int32)), .val (.int (((p2.toUInt32 >>> ((1 : Int32) &&& 31).toUInt32).toInt32) &&& (3 : Int32))), .val (.long (q0 - (1 : Int64))), .second, .val (.ref c61), .val (.ref b62), .val (.int (0 : Int32))] [(.int (1 : Int32))])) _
              exact retN X66 hx (t := .boolean) Bd.returns (by simp) (hb hby at_126) hr
            · show Q0 Z q0 q1 p2 wC clC h0 n0 _ T66.heap _
              exact ⟨rfl, N66⟩
theorem own_eqint {t : Term} {k : Int32} {args : Array Value} {first s : State} {o : Option Outcome} {idx : List Nat} (h : (Jvm.Cond.eq t (.int k)).value args first o s idx = some true) : t.eval args first o idx s = some (.int k) := by
  cases ht : t.eval args first o idx s with
  | none => simp [Cond.value, Term.eval, ht] at h
  | some x => cases x <;> simp [Cond.value, Term.eval, ht] at h; subst h; rfl
theorem own_neint {t : Term} {k z : Int32} {args : Array Value} {first s : State} {o : Option Outcome} {idx : List Nat} (h : (Jvm.Cond.not (.eq t (.int k))).value args first o s idx = some true) (ev : t.eval args first o idx s = some (.int z)) : ¬ z = k := fun q => by
  subst q
  have h' := not_v h
  simp [Cond.value, Term.eval, ev] at h'
set_option maxRecDepth 65536 in
set_option maxHeartbeats 40000000 in
theorem comes_1 {Post : Tables → Env → Array Value → State → Outcome → State → Prop} (hpost : ∀ tb e args s v u, (limb_1_1.after args s (.returned v) u = true ∧ limb_1_2.after args s (.returned v) u = true ∧ True) → FrameEnd s (.returned v) u (Jvm.fieldLocs frame_1_writes args s ++ Jvm.arrayLocs frame_1_arrays args s ++ Jvm.staticLocs frame_1_statics s) 16 128 → Post tb e args s (.returned v) u) :
    ArmFor flags0 classFile x code maxLocals ret World_1 tables_1 room_1 Calls_1 rest_1 Pre_1 Post := by
  intro l hfl _ _ p e ha hc hk s m args below hf hA hF happ hP
  obtain ⟨hcalls, hrest, hpre⟩ := hP
  obtain ⟨-, -, -, hnamed, -, -, -, hat⟩ := (Spec.applies_iff hf).mp happ
  obtain ⟨hg, hn⟩ := and_e (Cond.before_iff.mp (show (Jvm.Cond.and given_1 narrow_1).before args s = true from hpre))
  have hv0 := (and_e (and_e hg).2).1
  have hv1 := (and_e (and_e (and_e hg).2).2).1
  have hv2 := (and_e (and_e (and_e hg).2).2).2
  obtain ⟨w0, w1, w2, rfl⟩ : ∃ w0 w1 w2 : Value, args = #[w0, w1, w2] := by
    have hs : args.size = 3 := by simpa [Cond.value, given_1] using (and_e hg).1
    obtain ⟨L⟩ := args
    match L, hs with
    | [w0, w1, w2], _ => exact ⟨w0, w1, w2, rfl⟩
  have hw := fun d (hd : d ∈ tables_1) => atoms_spec (ws := Jvm.Cond.code x code maxLocals ret :: tables_1) hat d (List.mem_cons_of_mem _ hd)
  have hfit : Fit s := fun {y c} hc i hi => by
    obtain ⟨ha, rfl⟩ := Array.getElem?_eq_some_iff.mp hc
    have q := List.all_eq_true.mp ((Array.all_eq_true_iff_forall_mem.mp hF) _ (Array.getElem_mem ha)) i (List.mem_range.mpr hi)
    simpa [Array.getElem?_eq_getElem hi] using q
  obtain ⟨hsets, hown0⟩ := atoms_of _ (rest_1_c_eq ▸ (show rest_1_c.before _ s = true from hrest))
  have hr0 := Cond.before_iff.mp hown0
  obtain ⟨i0, ei0⟩ := isL_v hv0
  obtain rfl : w0 = (.long i0) := Option.some.inj ei0
  obtain ⟨i1, ei1⟩ := isL_v hv1
  obtain rfl : w1 = (.long i1) := Option.some.inj ei1
  obtain ⟨i2, ei2⟩ := is_v hv2
  obtain rfl : w2 = (.int i2) := Option.some.inj ei2
  have hx_C := Cond.before_iff.mp (hsets _ (List.mem_of_getElem? (i := 3) rfl))
  obtain ⟨wC, ev_C⟩ := exa_v hx_C
  have S_cache : Sta s s.heap "java/lang/Long$LongCache" "cache" "[Ljava/lang/Long;" (.ref wC) := Sta.start ev_C (Or.inl (hsets _ (List.mem_of_getElem? (i := 1) rfl)))
  obtain ⟨clC, Ar_C⟩ := Arr.start ev_C (Cond.before_iff.mp (hsets _ (List.mem_of_getElem? (i := 2) rfl)))
  obtain ⟨L_C, P_C⟩ := own_cache ev_C Ar_C (Cond.before_iff.mp (hsets _ (List.mem_of_getElem? (i := 4) rfl))) (Cond.before_iff.mp (hsets _ (List.mem_of_getElem? (i := 5) rfl)))
  obtain ⟨n, o, h1, h2, h3, _, L, rfl, ⟨rfl, N⟩, hq⟩ := rm0 l s _ hw tables_1 i0 i1 i2 wC clC s.heap s.heap.size (Nat.le_refl _) S_cache Ar_C L_C P_C p e ha hc hk s m _ below hf ((Spec.applies_iff_loose hf).mp happ).1 ⟨rfl, State.Warmed39.refl s, rfl⟩ trivial
  refine ⟨n, _, h1, h2, h3, hpost _ _ _ _ _ _ ⟨Cond.after_iff.mpr rfl, Cond.after_iff.mpr (eq_i res_at (Term.int_eval (1)) rfl), trivial⟩ ⟨hq.1, hq.2.1, (hq.2.2.sift fun y hy => Or.inr (N y hy)).mono (by decide) (by decide)⟩⟩
theorem main_1_1 : Claimed_1_1 := comes_1 fun _ _ _ _ _ _ h hF => ⟨h.1, hF⟩
theorem main_1_2 : Claimed_1_2 := comes_1 fun _ _ _ _ _ _ h hF => ⟨h.2.1, hF⟩
end Jvm.Pilot.@@N@@
namespace Jvm.Pilot.@@N@@
open Jvm Jvm.ClassFile Sem Op Lib Jvm.Free Jvm.Stand Jvm.Pilot.@@N@@.Jvm.D
/-! MADE BY PROGRAM (witnessworld.py) out of the Statement's table words and the real class files: 16 classes; the members and pool entries that the words name. The judged class is class 1, her method 1. -/
namespace start1
open Jvm.ClassFile
def u (s : String) : CpInfo := .utf8 (stringToUtf16 s)
/-- a pool by its gaps: so many unusable entries, then the entry; so many at the end -/
def gap : Nat → List CpInfo → List CpInfo
  | 0, r => r
  | n + 1, r => .unusable :: gap n r
def poolList (es : List (Nat × CpInfo)) (last : Nat) : List CpInfo := es.foldr (fun e r => gap e.1 (e.2 :: r)) (gap last [])
def pool (es : List (Nat × CpInfo)) (last : Nat) : Array CpInfo := ⟨poolList es last⟩
def fileOf (pool : Array CpInfo) (this : Nat) (attrs : Array Attribute := #[]) (ms : Array MethodInfo := #[]) (fl : Nat := 33) (sup : Nat := 0) (ifs : Array Nat := #[]) (fds : Array FieldInfo := #[]) : ClassFile where
  minorVersion := 0
  majorVersion := 65
  constantPool := pool
  accessFlags := fl
  thisClass := this
  superClass := sup
  interfaces := ifs
  fields := fds
  methods := ms
  attributes := attrs
def plain (name : String) (sup : Option ClassId) : Class where
  name := name
  kind := .ordinary
  loader := none
  accessFlags := 33
  super := sup
  interfaces := #[]
  cf := none
  fields := #[]
  methods := #[]
  instanceTypes := #[]
  staticTypes := #[]
  resolved := #[]
  callSites := []
  init := .initialized
  statics := none
  mirror := none

def pool0 : Array CpInfo := pool [(5, u "<init>"), (0, u "()V"), (1, .class_ 10), (1, u "java/lang/Object")] 113

def k0c0 : Code := { maxStack := 0, maxLocals := 1, code := object_method_1_code, exceptionTable := #[], attributes := #[] }
def k0m0 : Method := { name := "<init>", desc := "()V", sig := { parameters := [], returnType := none }, accessFlags := 1, code := some k0c0 }
/-- java/lang/Object -/
def k0 : Class := { plain "java/lang/Object" none with
  accessFlags := 33
  interfaces := #[]
  cf := some (fileOf pool0 8 #[] #[{ accessFlags := 1, nameIndex := 5, descriptorIndex := 6, attributes := #[] }] 33 0 #[] #[])
  fields := #[]
  methods := #[k0m0]
  instanceTypes := #[]
  staticTypes := #[]
  resolved := Array.replicate 124 none
  statics := none }

def pool1 : Array CpInfo := pool [(2, .class_ 4), (1, u "java/lang/Object"), (0, u "<init>"), (0, u "()V"), (0, .methodref 8 9), (0, .class_ 10), (0, .nameAndType 11 12), (0, u "java/lang/Long"), (0, u "valueOf"), (0, u "(J)Ljava/lang/Long;"), (0, .class_ 14), (0, u "com/example/lading/lading/core/Occurrence"), (0, .methodref 13 16), (0, .nameAndType 5 17), (0, u "(JLjava/lang/Long;)V"), (0, .methodref 13 19), (0, .nameAndType 20 21), (0, u "isFixed"), (0, u "()Z"), (0, .class_ 23), (0, u "com/example/lading/lading/core/OccurrenceIsFixedPinLaw"), (2, u "law"), (0, u "(JJI)Z")] 3

def k1m0 : Method := { name := "<init>", desc := "()V", sig := { parameters := [], returnType := none }, accessFlags := 1, code := none }
def k1c1 : Code := { maxStack := 5, maxLocals := 12, code := code, exceptionTable := #[], attributes := #[] }
def k1m1 : Method := { name := "law", desc := "(JJI)Z", sig := { parameters := [.long, .long, .int], returnType := some .boolean }, accessFlags := 9, code := some k1c1 }
/-- com/example/lading/lading/core/OccurrenceIsFixedPinLaw -/
def k1 : Class := { plain "com/example/lading/lading/core/OccurrenceIsFixedPinLaw" (some 0) with
  accessFlags := 49
  interfaces := #[]
  cf := some (fileOf pool1 22 #[] #[{ accessFlags := 1, nameIndex := 5, descriptorIndex := 6, attributes := #[] }, { accessFlags := 9, nameIndex := 26, descriptorIndex := 27, attributes := #[] }] 49 2 #[] #[])
  fields := #[]
  methods := #[k1m0, k1m1]
  instanceTypes := #[]
  staticTypes := #[]
  resolved := Array.replicate 31 none
  statics := none }

def pool2 : Array CpInfo := pool [(1, .methodref 2 3), (0, .class_ 4), (0, .nameAndType 5 6), (0, u "java/lang/Object"), (0, u "<init>"), (0, u "()V"), (0, .fieldref 8 9), (0, .class_ 10), (0, .nameAndType 11 12), (0, u "com/example/lading/lading/core/Occurrence"), (0, u "min"), (0, u "J"), (0, .fieldref 8 14), (0, .nameAndType 15 16), (0, u "max"), (0, u "Ljava/lang/Long;"), (0, .methodref 18 19), (0, .class_ 20), (0, .nameAndType 21 22), (0, u "java/lang/Long"), (0, u "longValue"), (0, u "()J"), (26, u "(JLjava/lang/Long;)V"), (2, u "ONE"), (0, u "Lcom/example/lading/lading/core/Occurrence;"), (3, u "isFixed"), (0, u "()Z")] 32

def k2c0 : Code := { maxStack := 3, maxLocals := 4, code := prog_25_method_1_code, exceptionTable := #[], attributes := #[] }
def k2m0 : Method := { name := "<init>", desc := "(JLjava/lang/Long;)V", sig := { parameters := [.long, (.object "java/lang/Long")], returnType := none }, accessFlags := 1, code := some k2c0 }
def k2c1 : Code := { maxStack := 4, maxLocals := 1, code := prog_25_method_4_code, exceptionTable := #[], attributes := #[] }
def k2m1 : Method := { name := "isFixed", desc := "()Z", sig := { parameters := [], returnType := some .boolean }, accessFlags := 1, code := some k2c1 }
/-- com/example/lading/lading/core/Occurrence -/
def k2 : Class := { plain "com/example/lading/lading/core/Occurrence" (some 0) with
  accessFlags := 49
  interfaces := #[]
  cf := some (fileOf pool2 8 #[] #[{ accessFlags := 1, nameIndex := 5, descriptorIndex := 49, attributes := #[] }, { accessFlags := 1, nameIndex := 57, descriptorIndex := 58, attributes := #[] }] 49 2 #[] #[{ accessFlags := 25, nameIndex := 52, descriptorIndex := 53, attributes := #[] }, { accessFlags := 18, nameIndex := 11, descriptorIndex := 12, attributes := #[] }, { accessFlags := 18, nameIndex := 15, descriptorIndex := 16, attributes := #[] }])
  fields := #[{ name := "ONE", type := (.object "com/example/lading/lading/core/Occurrence"), accessFlags := 25, slot := 0, constantValue := 0 }, { name := "min", type := .long, accessFlags := 18, slot := 0, constantValue := 0 }, { name := "max", type := (.object "java/lang/Long"), accessFlags := 18, slot := 1, constantValue := 0 }]
  methods := #[k2m0, k2m1]
  instanceTypes := #[.long, (.object "java/lang/Long")]
  staticTypes := #[(.object "com/example/lading/lading/core/Occurrence")]
  resolved := Array.replicate 91 none
  statics := none }

def pool3 : Array CpInfo := pool [(1, .class_ 2), (0, u "java/io/Serializable"), (0, .class_ 4), (0, u "java/lang/Object")] 2

/-- java/io/Serializable -/
def k3 : Class := { plain "java/io/Serializable" (some 0) with
  accessFlags := 1537
  interfaces := #[]
  cf := some (fileOf pool3 1 #[] #[] 1537 3 #[] #[])
  fields := #[]
  methods := #[]
  instanceTypes := #[]
  staticTypes := #[]
  resolved := Array.replicate 7 none
  statics := none }

def pool4 : Array CpInfo := pool [(1, .methodref 2 3), (0, .class_ 4), (0, .nameAndType 5 6), (0, u "java/lang/Object"), (0, u "<init>"), (0, u "()V"), (1, .class_ 10), (1, u "java/lang/Number"), (2, .class_ 14), (0, u "java/io/Serializable"), (0, u "serialVersionUID"), (0, u "J")] 20

def k4c0 : Code := { maxStack := 1, maxLocals := 1, code := jdk_18_method_1_code, exceptionTable := #[], attributes := #[] }
def k4m0 : Method := { name := "<init>", desc := "()V", sig := { parameters := [], returnType := none }, accessFlags := 1, code := some k4c0 }
/-- java/lang/Number -/
def k4 : Class := { plain "java/lang/Number" (some 0) with
  accessFlags := 1057
  interfaces := #[3]
  cf := some (fileOf pool4 8 #[] #[{ accessFlags := 1, nameIndex := 5, descriptorIndex := 6, attributes := #[] }] 1057 2 #[13] #[{ accessFlags := 26, nameIndex := 15, descriptorIndex := 16, attributes := #[] }])
  fields := #[{ name := "serialVersionUID", type := .long, accessFlags := 26, slot := 0, constantValue := 0 }]
  methods := #[k4m0]
  instanceTypes := #[]
  staticTypes := #[.long]
  resolved := Array.replicate 37 none
  statics := none }

def pool5 : Array CpInfo := pool [(1, .class_ 2), (0, u "java/lang/Comparable"), (0, .class_ 4), (0, u "java/lang/Object")] 7

/-- java/lang/Comparable -/
def k5 : Class := { plain "java/lang/Comparable" (some 0) with
  accessFlags := 1537
  interfaces := #[]
  cf := some (fileOf pool5 1 #[] #[] 1537 3 #[] #[])
  fields := #[]
  methods := #[]
  instanceTypes := #[]
  staticTypes := #[]
  resolved := Array.replicate 12 none
  statics := none }

def pool6 : Array CpInfo := pool [(1, .class_ 2), (0, u "java/lang/constant/Constable"), (0, .class_ 4), (0, u "java/lang/Object")] 6

/-- java/lang/constant/Constable -/
def k6 : Class := { plain "java/lang/constant/Constable" (some 0) with
  accessFlags := 1537
  interfaces := #[]
  cf := some (fileOf pool6 1 #[] #[] 1537 3 #[] #[])
  fields := #[]
  methods := #[]
  instanceTypes := #[]
  staticTypes := #[]
  resolved := Array.replicate 11 none
  statics := none }

def pool7 : Array CpInfo := pool [(1, .class_ 2), (0, u "java/lang/constant/ConstantDesc"), (0, .class_ 4), (0, u "java/lang/Object")] 32

/-- java/lang/constant/ConstantDesc -/
def k7 : Class := { plain "java/lang/constant/ConstantDesc" (some 0) with
  accessFlags := 1537
  interfaces := #[]
  cf := some (fileOf pool7 1 #[] #[] 1537 3 #[] #[])
  fields := #[]
  methods := #[]
  instanceTypes := #[]
  staticTypes := #[]
  resolved := Array.replicate 37 none
  statics := none }

def pool8 : Array CpInfo := pool [(1, .class_ 2), (0, u "java/lang/Long"), (55, .nameAndType 59 60), (0, u "<init>"), (0, u "()V"), (24, u "valueOf"), (143, u "(J)Ljava/lang/Long;"), (0, .long 18446744073709551488), (1, .long 127), (1, .fieldref 235 236), (0, .class_ 237), (0, .nameAndType 238 239), (0, u "java/lang/Long$LongCache"), (0, u "cache"), (0, u "[Ljava/lang/Long;"), (0, .methodref 1 241), (0, .nameAndType 59 242), (0, u "(J)V"), (27, .methodref 271 58), (0, .class_ 272), (0, u "java/lang/Number"), (0, .fieldref 1 274), (0, .nameAndType 275 276), (0, u "value"), (0, u "J"), (5, u "longValue"), (0, u "()J"), (77, u "TYPE"), (0, u "Ljava/lang/Class;"), (0, .class_ 364), (0, u "java/lang/Comparable"), (0, .class_ 366), (0, u "java/lang/constant/Constable"), (0, .class_ 368), (0, u "java/lang/constant/ConstantDesc"), (0, u "MIN_VALUE"), (1, u "MAX_VALUE"), (4, u "SIZE"), (0, u "I"), (1, u "BYTES"), (1, u "serialVersionUID")] 142

def k8c0 : Code := { maxStack := 4, maxLocals := 3, code := jdk_35_method_24_code, exceptionTable := #[], attributes := #[] }
def k8m0 : Method := { name := "valueOf", desc := "(J)Ljava/lang/Long;", sig := { parameters := [.long], returnType := some (.object "java/lang/Long") }, accessFlags := 9, code := some k8c0 }
def k8c1 : Code := { maxStack := 3, maxLocals := 3, code := jdk_35_method_26_code, exceptionTable := #[], attributes := #[] }
def k8m1 : Method := { name := "<init>", desc := "(J)V", sig := { parameters := [.long], returnType := none }, accessFlags := 1, code := some k8c1 }
def k8c2 : Code := { maxStack := 2, maxLocals := 1, code := jdk_35_method_31_code, exceptionTable := #[], attributes := #[] }
def k8m2 : Method := { name := "longValue", desc := "()J", sig := { parameters := [], returnType := some .long }, accessFlags := 1, code := some k8c2 }
/-- java/lang/Long -/
def k8 : Class := { plain "java/lang/Long" (some 4) with
  accessFlags := 49
  interfaces := #[5, 6, 7]
  cf := some (fileOf pool8 1 #[.nestMembers #[235]] #[{ accessFlags := 9, nameIndex := 85, descriptorIndex := 229, attributes := #[] }, { accessFlags := 1, nameIndex := 59, descriptorIndex := 242, attributes := #[] }, { accessFlags := 1, nameIndex := 282, descriptorIndex := 283, attributes := #[] }] 49 271 #[363, 365, 367] #[{ accessFlags := 25, nameIndex := 369, descriptorIndex := 276, attributes := #[] }, { accessFlags := 25, nameIndex := 371, descriptorIndex := 276, attributes := #[] }, { accessFlags := 25, nameIndex := 361, descriptorIndex := 362, attributes := #[] }, { accessFlags := 18, nameIndex := 275, descriptorIndex := 276, attributes := #[] }, { accessFlags := 25, nameIndex := 376, descriptorIndex := 377, attributes := #[] }, { accessFlags := 25, nameIndex := 379, descriptorIndex := 377, attributes := #[] }, { accessFlags := 26, nameIndex := 381, descriptorIndex := 276, attributes := #[] }])
  fields := #[{ name := "MIN_VALUE", type := .long, accessFlags := 25, slot := 0, constantValue := 0 }, { name := "MAX_VALUE", type := .long, accessFlags := 25, slot := 1, constantValue := 0 }, { name := "TYPE", type := (.object "java/lang/Class"), accessFlags := 25, slot := 2, constantValue := 0 }, { name := "value", type := .long, accessFlags := 18, slot := 0, constantValue := 0 }, { name := "SIZE", type := .int, accessFlags := 25, slot := 3, constantValue := 0 }, { name := "BYTES", type := .int, accessFlags := 25, slot := 4, constantValue := 0 }, { name := "serialVersionUID", type := .long, accessFlags := 26, slot := 5, constantValue := 0 }]
  methods := #[k8m0, k8m1, k8m2]
  instanceTypes := #[.long]
  staticTypes := #[.long, .long, (.object "java/lang/Class"), .int, .int, .long]
  resolved := Array.replicate 524 none
  statics := none }

def pool9 : Array CpInfo := pool [(2, .class_ 4), (1, u "java/lang/Object"), (0, u "<init>"), (0, u "()V"), (0, .class_ 8), (0, u "java/lang/Long"), (7, .class_ 18), (1, u "java/lang/Long$LongCache"), (0, u "$assertionsDisabled"), (0, u "Z"), (8, u "archivedCache"), (0, u "[Ljava/lang/Long;"), (7, u "cache")] 24

def k9m0 : Method := { name := "<init>", desc := "()V", sig := { parameters := [], returnType := none }, accessFlags := 2, code := none }
/-- java/lang/Long$LongCache -/
def k9 : Class := { plain "java/lang/Long$LongCache" (some 0) with
  accessFlags := 48
  interfaces := #[]
  cf := some (fileOf pool9 16 #[.nestHost 7] #[{ accessFlags := 2, nameIndex := 5, descriptorIndex := 6, attributes := #[] }] 48 2 #[] #[{ accessFlags := 24, nameIndex := 38, descriptorIndex := 30, attributes := #[] }, { accessFlags := 8, nameIndex := 29, descriptorIndex := 30, attributes := #[] }, { accessFlags := 4120, nameIndex := 19, descriptorIndex := 20, attributes := #[] }])
  fields := #[{ name := "cache", type := (.array (.object "java/lang/Long")), accessFlags := 24, slot := 0, constantValue := 0 }, { name := "archivedCache", type := (.array (.object "java/lang/Long")), accessFlags := 8, slot := 1, constantValue := 0 }, { name := "$assertionsDisabled", type := .boolean, accessFlags := 4120, slot := 2, constantValue := 0 }]
  methods := #[k9m0]
  instanceTypes := #[]
  staticTypes := #[(.array (.object "java/lang/Long")), (.array (.object "java/lang/Long")), .boolean]
  resolved := Array.replicate 63 none
  statics := some 0 }

def pool10 : Array CpInfo := pool [(1, u "java/lang/Cloneable"), (0, .class_ 1), (0, u "java/lang/Object"), (0, .class_ 3)] 3

/-- java/lang/Cloneable -/
def k10 : Class := { plain "java/lang/Cloneable" (some 0) with
  accessFlags := 1537
  interfaces := #[]
  cf := some (fileOf pool10 2 #[] #[] 1537 4 #[] #[])
  fields := #[]
  methods := #[]
  instanceTypes := #[]
  staticTypes := #[]
  resolved := Array.replicate 8 none
  statics := none }

/-- the primitive byte -/
def k11 : Class := { plain "byte" none with kind := .primitive 'B', accessFlags := 0x411 }
/-- [B -/
def k12 : Class := { plain "[B" (some 0) with kind := .array 11 .byte, interfaces := #[10, 3], accessFlags := 1041 }

/-- the primitive int -/
def k13 : Class := { plain "int" none with kind := .primitive 'I', accessFlags := 0x411 }
/-- [I -/
def k14 : Class := { plain "[I" (some 0) with kind := .array 13 .int, interfaces := #[10, 3], accessFlags := 1041 }

/-- [Ljava/lang/Long; -/
def k15 : Class := { plain "[Ljava/lang/Long;" (some 0) with kind := .array 8 (.object "java/lang/Long"), interfaces := #[10, 3], accessFlags := 1041 }

def heap : Heap := #[{ cls := 9, slots := #[.ref 1, .null, .int 0], vm := .statics 9 },
  { cls := 15, slots := #[.ref 2, .ref 3, .ref 4, .ref 5, .ref 6, .ref 7, .ref 8, .ref 9, .ref 10, .ref 11, .ref 12, .ref 13, .ref 14, .ref 15, .ref 16, .ref 17, .ref 18, .ref 19, .ref 20, .ref 21, .ref 22, .ref 23, .ref 24, .ref 25, .ref 26, .ref 27, .ref 28, .ref 29, .ref 30, .ref 31, .ref 32, .ref 33, .ref 34, .ref 35, .ref 36, .ref 37, .ref 38, .ref 39, .ref 40, .ref 41, .ref 42, .ref 43, .ref 44, .ref 45, .ref 46, .ref 47, .ref 48, .ref 49, .ref 50, .ref 51, .ref 52, .ref 53, .ref 54, .ref 55, .ref 56, .ref 57, .ref 58, .ref 59, .ref 60, .ref 61, .ref 62, .ref 63, .ref 64, .ref 65, .ref 66, .ref 67, .ref 68, .ref 69, .ref 70, .ref 71, .ref 72, .ref 73, .ref 74, .ref 75, .ref 76, .ref 77, .ref 78, .ref 79, .ref 80, .ref 81, .ref 82, .ref 83, .ref 84, .ref 85, .ref 86, .ref 87, .ref 88, .ref 89, .ref 90, .ref 91, .ref 92, .ref 93, .ref 94, .ref 95, .ref 96, .ref 97, .ref 98, .ref 99, .ref 100, .ref 101, .ref 102, .ref 103, .ref 104, .ref 105, .ref 106, .ref 107, .ref 108, .ref 109, .ref 110, .ref 111, .ref 112, .ref 113, .ref 114, .ref 115, .ref 116, .ref 117, .ref 118, .ref 119, .ref 120, .ref 121, .ref 122, .ref 123, .ref 124, .ref 125, .ref 126, .ref 127, .ref 128, .ref 129, .ref 130, .ref 131, .ref 132, .ref 133, .ref 134, .ref 135, .ref 136, .ref 137, .ref 138, .ref 139, .ref 140, .ref 141, .ref 142, .ref 143, .ref 144, .ref 145, .ref 146, .ref 147, .ref 148, .ref 149, .ref 150, .ref 151, .ref 152, .ref 153, .ref 154, .ref 155, .ref 156, .ref 157, .ref 158, .ref 159, .ref 160, .ref 161, .ref 162, .ref 163, .ref 164, .ref 165, .ref 166, .ref 167, .ref 168, .ref 169, .ref 170, .ref 171, .ref 172, .ref 173, .ref 174, .ref 175, .ref 176, .ref 177, .ref 178, .ref 179, .ref 180, .ref 181, .ref 182, .ref 183, .ref 184, .ref 185, .ref 186, .ref 187, .ref 188, .ref 189, .ref 190, .ref 191, .ref 192, .ref 193, .ref 194, .ref 195, .ref 196, .ref 197, .ref 198, .ref 199, .ref 200, .ref 201, .ref 202, .ref 203, .ref 204, .ref 205, .ref 206, .ref 207, .ref 208, .ref 209, .ref 210, .ref 211, .ref 212, .ref 213, .ref 214, .ref 215, .ref 216, .ref 217, .ref 218, .ref 219, .ref 220, .ref 221, .ref 222, .ref 223, .ref 224, .ref 225, .ref 226, .ref 227, .ref 228, .ref 229, .ref 230, .ref 231, .ref 232, .ref 233, .ref 234, .ref 235, .ref 236, .ref 237, .ref 238, .ref 239, .ref 240, .ref 241, .ref 242, .ref 243, .ref 244, .ref 245, .ref 246, .ref 247, .ref 248, .ref 249, .ref 250, .ref 251, .ref 252, .ref 253, .ref 254, .ref 255, .ref 256, .ref 257], vm := .none },
  { cls := 8, slots := #[.long (-128)], vm := .none },
  { cls := 8, slots := #[.long (-127)], vm := .none },
  { cls := 8, slots := #[.long (-126)], vm := .none },
  { cls := 8, slots := #[.long (-125)], vm := .none },
  { cls := 8, slots := #[.long (-124)], vm := .none },
  { cls := 8, slots := #[.long (-123)], vm := .none },
  { cls := 8, slots := #[.long (-122)], vm := .none },
  { cls := 8, slots := #[.long (-121)], vm := .none },
  { cls := 8, slots := #[.long (-120)], vm := .none },
  { cls := 8, slots := #[.long (-119)], vm := .none },
  { cls := 8, slots := #[.long (-118)], vm := .none },
  { cls := 8, slots := #[.long (-117)], vm := .none },
  { cls := 8, slots := #[.long (-116)], vm := .none },
  { cls := 8, slots := #[.long (-115)], vm := .none },
  { cls := 8, slots := #[.long (-114)], vm := .none },
  { cls := 8, slots := #[.long (-113)], vm := .none },
  { cls := 8, slots := #[.long (-112)], vm := .none },
  { cls := 8, slots := #[.long (-111)], vm := .none },
  { cls := 8, slots := #[.long (-110)], vm := .none },
  { cls := 8, slots := #[.long (-109)], vm := .none },
  { cls := 8, slots := #[.long (-108)], vm := .none },
  { cls := 8, slots := #[.long (-107)], vm := .none },
  { cls := 8, slots := #[.long (-106)], vm := .none },
  { cls := 8, slots := #[.long (-105)], vm := .none },
  { cls := 8, slots := #[.long (-104)], vm := .none },
  { cls := 8, slots := #[.long (-103)], vm := .none },
  { cls := 8, slots := #[.long (-102)], vm := .none },
  { cls := 8, slots := #[.long (-101)], vm := .none },
  { cls := 8, slots := #[.long (-100)], vm := .none },
  { cls := 8, slots := #[.long (-99)], vm := .none },
  { cls := 8, slots := #[.long (-98)], vm := .none },
  { cls := 8, slots := #[.long (-97)], vm := .none },
  { cls := 8, slots := #[.long (-96)], vm := .none },
  { cls := 8, slots := #[.long (-95)], vm := .none },
  { cls := 8, slots := #[.long (-94)], vm := .none },
  { cls := 8, slots := #[.long (-93)], vm := .none },
  { cls := 8, slots := #[.long (-92)], vm := .none },
  { cls := 8, slots := #[.long (-91)], vm := .none },
  { cls := 8, slots := #[.long (-90)], vm := .none },
  { cls := 8, slots := #[.long (-89)], vm := .none },
  { cls := 8, slots := #[.long (-88)], vm := .none },
  { cls := 8, slots := #[.long (-87)], vm := .none },
  { cls := 8, slots := #[.long (-86)], vm := .none },
  { cls := 8, slots := #[.long (-85)], vm := .none },
  { cls := 8, slots := #[.long (-84)], vm := .none },
  { cls := 8, slots := #[.long (-83)], vm := .none },
  { cls := 8, slots := #[.long (-82)], vm := .none },
  { cls := 8, slots := #[.long (-81)], vm := .none },
  { cls := 8, slots := #[.long (-80)], vm := .none },
  { cls := 8, slots := #[.long (-79)], vm := .none },
  { cls := 8, slots := #[.long (-78)], vm := .none },
  { cls := 8, slots := #[.long (-77)], vm := .none },
  { cls := 8, slots := #[.long (-76)], vm := .none },
  { cls := 8, slots := #[.long (-75)], vm := .none },
  { cls := 8, slots := #[.long (-74)], vm := .none },
  { cls := 8, slots := #[.long (-73)], vm := .none },
  { cls := 8, slots := #[.long (-72)], vm := .none },
  { cls := 8, slots := #[.long (-71)], vm := .none },
  { cls := 8, slots := #[.long (-70)], vm := .none },
  { cls := 8, slots := #[.long (-69)], vm := .none },
  { cls := 8, slots := #[.long (-68)], vm := .none },
  { cls := 8, slots := #[.long (-67)], vm := .none },
  { cls := 8, slots := #[.long (-66)], vm := .none },
  { cls := 8, slots := #[.long (-65)], vm := .none },
  { cls := 8, slots := #[.long (-64)], vm := .none },
  { cls := 8, slots := #[.long (-63)], vm := .none },
  { cls := 8, slots := #[.long (-62)], vm := .none },
  { cls := 8, slots := #[.long (-61)], vm := .none },
  { cls := 8, slots := #[.long (-60)], vm := .none },
  { cls := 8, slots := #[.long (-59)], vm := .none },
  { cls := 8, slots := #[.long (-58)], vm := .none },
  { cls := 8, slots := #[.long (-57)], vm := .none },
  { cls := 8, slots := #[.long (-56)], vm := .none },
  { cls := 8, slots := #[.long (-55)], vm := .none },
  { cls := 8, slots := #[.long (-54)], vm := .none },
  { cls := 8, slots := #[.long (-53)], vm := .none },
  { cls := 8, slots := #[.long (-52)], vm := .none },
  { cls := 8, slots := #[.long (-51)], vm := .none },
  { cls := 8, slots := #[.long (-50)], vm := .none },
  { cls := 8, slots := #[.long (-49)], vm := .none },
  { cls := 8, slots := #[.long (-48)], vm := .none },
  { cls := 8, slots := #[.long (-47)], vm := .none },
  { cls := 8, slots := #[.long (-46)], vm := .none },
  { cls := 8, slots := #[.long (-45)], vm := .none },
  { cls := 8, slots := #[.long (-44)], vm := .none },
  { cls := 8, slots := #[.long (-43)], vm := .none },
  { cls := 8, slots := #[.long (-42)], vm := .none },
  { cls := 8, slots := #[.long (-41)], vm := .none },
  { cls := 8, slots := #[.long (-40)], vm := .none },
  { cls := 8, slots := #[.long (-39)], vm := .none },
  { cls := 8, slots := #[.long (-38)], vm := .none },
  { cls := 8, slots := #[.long (-37)], vm := .none },
  { cls := 8, slots := #[.long (-36)], vm := .none },
  { cls := 8, slots := #[.long (-35)], vm := .none },
  { cls := 8, slots := #[.long (-34)], vm := .none },
  { cls := 8, slots := #[.long (-33)], vm := .none },
  { cls := 8, slots := #[.long (-32)], vm := .none },
  { cls := 8, slots := #[.long (-31)], vm := .none },
  { cls := 8, slots := #[.long (-30)], vm := .none },
  { cls := 8, slots := #[.long (-29)], vm := .none },
  { cls := 8, slots := #[.long (-28)], vm := .none },
  { cls := 8, slots := #[.long (-27)], vm := .none },
  { cls := 8, slots := #[.long (-26)], vm := .none },
  { cls := 8, slots := #[.long (-25)], vm := .none },
  { cls := 8, slots := #[.long (-24)], vm := .none },
  { cls := 8, slots := #[.long (-23)], vm := .none },
  { cls := 8, slots := #[.long (-22)], vm := .none },
  { cls := 8, slots := #[.long (-21)], vm := .none },
  { cls := 8, slots := #[.long (-20)], vm := .none },
  { cls := 8, slots := #[.long (-19)], vm := .none },
  { cls := 8, slots := #[.long (-18)], vm := .none },
  { cls := 8, slots := #[.long (-17)], vm := .none },
  { cls := 8, slots := #[.long (-16)], vm := .none },
  { cls := 8, slots := #[.long (-15)], vm := .none },
  { cls := 8, slots := #[.long (-14)], vm := .none },
  { cls := 8, slots := #[.long (-13)], vm := .none },
  { cls := 8, slots := #[.long (-12)], vm := .none },
  { cls := 8, slots := #[.long (-11)], vm := .none },
  { cls := 8, slots := #[.long (-10)], vm := .none },
  { cls := 8, slots := #[.long (-9)], vm := .none },
  { cls := 8, slots := #[.long (-8)], vm := .none },
  { cls := 8, slots := #[.long (-7)], vm := .none },
  { cls := 8, slots := #[.long (-6)], vm := .none },
  { cls := 8, slots := #[.long (-5)], vm := .none },
  { cls := 8, slots := #[.long (-4)], vm := .none },
  { cls := 8, slots := #[.long (-3)], vm := .none },
  { cls := 8, slots := #[.long (-2)], vm := .none },
  { cls := 8, slots := #[.long (-1)], vm := .none },
  { cls := 8, slots := #[.long 0], vm := .none },
  { cls := 8, slots := #[.long 1], vm := .none },
  { cls := 8, slots := #[.long 2], vm := .none },
  { cls := 8, slots := #[.long 3], vm := .none },
  { cls := 8, slots := #[.long 4], vm := .none },
  { cls := 8, slots := #[.long 5], vm := .none },
  { cls := 8, slots := #[.long 6], vm := .none },
  { cls := 8, slots := #[.long 7], vm := .none },
  { cls := 8, slots := #[.long 8], vm := .none },
  { cls := 8, slots := #[.long 9], vm := .none },
  { cls := 8, slots := #[.long 10], vm := .none },
  { cls := 8, slots := #[.long 11], vm := .none },
  { cls := 8, slots := #[.long 12], vm := .none },
  { cls := 8, slots := #[.long 13], vm := .none },
  { cls := 8, slots := #[.long 14], vm := .none },
  { cls := 8, slots := #[.long 15], vm := .none },
  { cls := 8, slots := #[.long 16], vm := .none },
  { cls := 8, slots := #[.long 17], vm := .none },
  { cls := 8, slots := #[.long 18], vm := .none },
  { cls := 8, slots := #[.long 19], vm := .none },
  { cls := 8, slots := #[.long 20], vm := .none },
  { cls := 8, slots := #[.long 21], vm := .none },
  { cls := 8, slots := #[.long 22], vm := .none },
  { cls := 8, slots := #[.long 23], vm := .none },
  { cls := 8, slots := #[.long 24], vm := .none },
  { cls := 8, slots := #[.long 25], vm := .none },
  { cls := 8, slots := #[.long 26], vm := .none },
  { cls := 8, slots := #[.long 27], vm := .none },
  { cls := 8, slots := #[.long 28], vm := .none },
  { cls := 8, slots := #[.long 29], vm := .none },
  { cls := 8, slots := #[.long 30], vm := .none },
  { cls := 8, slots := #[.long 31], vm := .none },
  { cls := 8, slots := #[.long 32], vm := .none },
  { cls := 8, slots := #[.long 33], vm := .none },
  { cls := 8, slots := #[.long 34], vm := .none },
  { cls := 8, slots := #[.long 35], vm := .none },
  { cls := 8, slots := #[.long 36], vm := .none },
  { cls := 8, slots := #[.long 37], vm := .none },
  { cls := 8, slots := #[.long 38], vm := .none },
  { cls := 8, slots := #[.long 39], vm := .none },
  { cls := 8, slots := #[.long 40], vm := .none },
  { cls := 8, slots := #[.long 41], vm := .none },
  { cls := 8, slots := #[.long 42], vm := .none },
  { cls := 8, slots := #[.long 43], vm := .none },
  { cls := 8, slots := #[.long 44], vm := .none },
  { cls := 8, slots := #[.long 45], vm := .none },
  { cls := 8, slots := #[.long 46], vm := .none },
  { cls := 8, slots := #[.long 47], vm := .none },
  { cls := 8, slots := #[.long 48], vm := .none },
  { cls := 8, slots := #[.long 49], vm := .none },
  { cls := 8, slots := #[.long 50], vm := .none },
  { cls := 8, slots := #[.long 51], vm := .none },
  { cls := 8, slots := #[.long 52], vm := .none },
  { cls := 8, slots := #[.long 53], vm := .none },
  { cls := 8, slots := #[.long 54], vm := .none },
  { cls := 8, slots := #[.long 55], vm := .none },
  { cls := 8, slots := #[.long 56], vm := .none },
  { cls := 8, slots := #[.long 57], vm := .none },
  { cls := 8, slots := #[.long 58], vm := .none },
  { cls := 8, slots := #[.long 59], vm := .none },
  { cls := 8, slots := #[.long 60], vm := .none },
  { cls := 8, slots := #[.long 61], vm := .none },
  { cls := 8, slots := #[.long 62], vm := .none },
  { cls := 8, slots := #[.long 63], vm := .none },
  { cls := 8, slots := #[.long 64], vm := .none },
  { cls := 8, slots := #[.long 65], vm := .none },
  { cls := 8, slots := #[.long 66], vm := .none },
  { cls := 8, slots := #[.long 67], vm := .none },
  { cls := 8, slots := #[.long 68], vm := .none },
  { cls := 8, slots := #[.long 69], vm := .none },
  { cls := 8, slots := #[.long 70], vm := .none },
  { cls := 8, slots := #[.long 71], vm := .none },
  { cls := 8, slots := #[.long 72], vm := .none },
  { cls := 8, slots := #[.long 73], vm := .none },
  { cls := 8, slots := #[.long 74], vm := .none },
  { cls := 8, slots := #[.long 75], vm := .none },
  { cls := 8, slots := #[.long 76], vm := .none },
  { cls := 8, slots := #[.long 77], vm := .none },
  { cls := 8, slots := #[.long 78], vm := .none },
  { cls := 8, slots := #[.long 79], vm := .none },
  { cls := 8, slots := #[.long 80], vm := .none },
  { cls := 8, slots := #[.long 81], vm := .none },
  { cls := 8, slots := #[.long 82], vm := .none },
  { cls := 8, slots := #[.long 83], vm := .none },
  { cls := 8, slots := #[.long 84], vm := .none },
  { cls := 8, slots := #[.long 85], vm := .none },
  { cls := 8, slots := #[.long 86], vm := .none },
  { cls := 8, slots := #[.long 87], vm := .none },
  { cls := 8, slots := #[.long 88], vm := .none },
  { cls := 8, slots := #[.long 89], vm := .none },
  { cls := 8, slots := #[.long 90], vm := .none },
  { cls := 8, slots := #[.long 91], vm := .none },
  { cls := 8, slots := #[.long 92], vm := .none },
  { cls := 8, slots := #[.long 93], vm := .none },
  { cls := 8, slots := #[.long 94], vm := .none },
  { cls := 8, slots := #[.long 95], vm := .none },
  { cls := 8, slots := #[.long 96], vm := .none },
  { cls := 8, slots := #[.long 97], vm := .none },
  { cls := 8, slots := #[.long 98], vm := .none },
  { cls := 8, slots := #[.long 99], vm := .none },
  { cls := 8, slots := #[.long 100], vm := .none },
  { cls := 8, slots := #[.long 101], vm := .none },
  { cls := 8, slots := #[.long 102], vm := .none },
  { cls := 8, slots := #[.long 103], vm := .none },
  { cls := 8, slots := #[.long 104], vm := .none },
  { cls := 8, slots := #[.long 105], vm := .none },
  { cls := 8, slots := #[.long 106], vm := .none },
  { cls := 8, slots := #[.long 107], vm := .none },
  { cls := 8, slots := #[.long 108], vm := .none },
  { cls := 8, slots := #[.long 109], vm := .none },
  { cls := 8, slots := #[.long 110], vm := .none },
  { cls := 8, slots := #[.long 111], vm := .none },
  { cls := 8, slots := #[.long 112], vm := .none },
  { cls := 8, slots := #[.long 113], vm := .none },
  { cls := 8, slots := #[.long 114], vm := .none },
  { cls := 8, slots := #[.long 115], vm := .none },
  { cls := 8, slots := #[.long 116], vm := .none },
  { cls := 8, slots := #[.long 117], vm := .none },
  { cls := 8, slots := #[.long 118], vm := .none },
  { cls := 8, slots := #[.long 119], vm := .none },
  { cls := 8, slots := #[.long 120], vm := .none },
  { cls := 8, slots := #[.long 121], vm := .none },
  { cls := 8, slots := #[.long 122], vm := .none },
  { cls := 8, slots := #[.long 123], vm := .none },
  { cls := 8, slots := #[.long 124], vm := .none },
  { cls := 8, slots := #[.long 125], vm := .none },
  { cls := 8, slots := #[.long 126], vm := .none },
  { cls := 8, slots := #[.long 127], vm := .none }]
def classes : Array Class := #[k0, k1, k2, k3, k4, k5, k6, k7, k8, k9, k10, k11, k12, k13, k14, k15]
def interned : List (Array UInt16 × Addr) := []
def slotsUsed : Nat := 515
def theMethod : MethodId := ⟨1, 1⟩
def args0 : Array Value := #[.long 5, .long 7, .int 3]
def aboutOver (below : List Frame) : State where
  vm := { classes := classes, interned := interned.toArray }
  heap := heap
  slotsUsed := slotsUsed
  threads := #[{ frames := .invoking theMethod args0 :: below }]
def below0 : List Frame := [.native { method := ⟨0, 0⟩, args := #[] }]
def about1 : State := aboutOver below0
def p0 : Program := .bare "" "" ""
def e0 : Env := launch0.env 0 0 0
theorem w_frames : about1.frames = Frame.invoking theMethod args0 :: below0 := rfl
set_option maxRecDepth 65536 in
theorem w_args : argsFit about1.vm theMethod args0 = true := by decide +kernel
set_option maxRecDepth 65536 in
theorem w_heap : heapFits about1 = true := by decide +kernel
set_option maxRecDepth 65536 in
theorem w_runnable : about1.curStatus? = some .runnable := by decide +kernel
set_option maxRecDepth 65536 in
theorem w_alone : about1.alone = true := by decide +kernel
set_option maxRecDepth 65536 in
theorem w_named : about1.methodNamed? x = some theMethod := by decide +kernel
set_option maxRecDepth 65536 in
theorem w_hears : about1.hears theMethod below0 = true := by decide +kernel
set_option maxRecDepth 65536 in
theorem w_ripe : about1.ripe theMethod args0 below0 = true := by decide +kernel
theorem w_running : about1.status = .running := rfl
set_option maxRecDepth 65536 in
theorem w_room : about1.hasRoom e0.platform room_1 = true :=
  launch0.hasRoom_least _ room_1 (by decide +kernel) (by decide +kernel) (by decide +kernel) (by decide +kernel) (by decide +kernel) (by decide +kernel)
theorem allAtoms_all (ts : List Jvm.Cond) (a : Array Jvm.Value) (st : Jvm.State) : (allAtoms ts).before a st = ts.all (fun c => c.before a st) := by
  induction ts with
  | nil => rfl
  | cons c t ih =>
    show (Jvm.Cond.and c (allAtoms t)).before a st = _
    rw [Jvm.Cond.before_and, ih, List.all_cons]
def words1 : List Jvm.Cond := Jvm.Cond.code x code maxLocals ret :: tables_1
/-- a 'code' word, met by the world's own term for the bytes: nothing is compared byte by byte -/
theorem code_word {y : MethodName} {bytes : ByteArray} {mx : Nat} {rt : Option FieldType} {a : Array Value} {s : State} {m : MethodId} {meth : Method} {c : Code} (h1 : s.methodNamed? y = some m) (h2 : s.vm.method? m = some meth) (h3 : meth.code = some c) (h4 : c.code = bytes)
    (h5 : (c.maxLocals == mx && c.exceptionTable.isEmpty && decide (c.maxStack ≤ mostOperands) && decide (meth.sig.returnType = rt) && !meth.locks && decide (parseMethodDescriptor y.desc = some meth.sig)) = true) : (Jvm.Cond.code y bytes mx rt).before a s = true := by
  simp only [Bool.and_eq_true, beq_iff_eq, Bool.not_eq_true', decide_eq_true_eq] at h5
  obtain ⟨⟨⟨⟨⟨g1, g2⟩, g3⟩, g4⟩, g5⟩, g6⟩ := h5
  simp [Cond.before, Cond.holds, Cond.value, h1, h2, h3, h4, g1, g2, g3, g4, g5, g6]
def isCode : Jvm.Cond → Bool
  | .code _ _ _ _ => true
  | _ => false
theorem all_split {L : List Jvm.Cond} {P : Jvm.Cond → Bool} (h1 : L.all (fun c => isCode c || P c) = true) (h2 : ∀ c ∈ L.filter isCode, P c = true) : L.all P = true := by
  refine List.all_eq_true.mpr fun c hc => ?_
  have h := List.all_eq_true.mp h1 c hc
  rcases Bool.eq_false_or_eq_true (isCode c) with hi | hi
  · exact h2 c (List.mem_filter.mpr ⟨hc, hi⟩)
  · simpa [hi] using h
set_option maxRecDepth 65536 in
theorem w_c0 : (Jvm.Cond.code x code maxLocals ret).before args0 about1 = true := code_word (m := ⟨1, 1⟩) (meth := k1m1) (c := k1c1) (by decide +kernel) rfl rfl rfl (by decide +kernel)
set_option maxRecDepth 65536 in
theorem w_c1 : (Jvm.Cond.code ({ cls := "com/example/lading/lading/core/Occurrence", name := "<init>", desc := "(JLjava/lang/Long;)V" } : Jvm.MethodName) prog_25_method_1_code (4 : Nat) (Option.none : Option Jvm.ClassFile.FieldType)).before args0 about1 = true := code_word (m := ⟨2, 0⟩) (meth := k2m0) (c := k2c0) (by decide +kernel) rfl rfl rfl (by decide +kernel)
set_option maxRecDepth 65536 in
theorem w_c2 : (Jvm.Cond.code ({ cls := "java/lang/Object", name := "<init>", desc := "()V" } : Jvm.MethodName) object_method_1_code (1 : Nat) (Option.none : Option Jvm.ClassFile.FieldType)).before args0 about1 = true := code_word (m := ⟨0, 0⟩) (meth := k0m0) (c := k0c0) (by decide +kernel) rfl rfl rfl (by decide +kernel)
set_option maxRecDepth 65536 in
theorem w_c3 : (Jvm.Cond.code ({ cls := "com/example/lading/lading/core/Occurrence", name := "isFixed", desc := "()Z" } : Jvm.MethodName) prog_25_method_4_code (1 : Nat) (Option.some Jvm.ClassFile.FieldType.boolean)).before args0 about1 = true := code_word (m := ⟨2, 1⟩) (meth := k2m1) (c := k2c1) (by decide +kernel) rfl rfl rfl (by decide +kernel)
set_option maxRecDepth 65536 in
theorem w_c4 : (Jvm.Cond.code ({ cls := "java/lang/Long", name := "valueOf", desc := "(J)Ljava/lang/Long;" } : Jvm.MethodName) jdk_35_method_24_code (3 : Nat) (Option.some (Jvm.ClassFile.FieldType.object "java/lang/Long"))).before args0 about1 = true := code_word (m := ⟨8, 0⟩) (meth := k8m0) (c := k8c0) (by decide +kernel) rfl rfl rfl (by decide +kernel)
set_option maxRecDepth 65536 in
theorem w_c5 : (Jvm.Cond.code ({ cls := "java/lang/Long", name := "longValue", desc := "()J" } : Jvm.MethodName) jdk_35_method_31_code (1 : Nat) (Option.some Jvm.ClassFile.FieldType.long)).before args0 about1 = true := code_word (m := ⟨8, 2⟩) (meth := k8m2) (c := k8c2) (by decide +kernel) rfl rfl rfl (by decide +kernel)
set_option maxRecDepth 65536 in
theorem w_c6 : (Jvm.Cond.code ({ cls := "java/lang/Long", name := "<init>", desc := "(J)V" } : Jvm.MethodName) jdk_35_method_26_code (3 : Nat) (Option.none : Option Jvm.ClassFile.FieldType)).before args0 about1 = true := code_word (m := ⟨8, 1⟩) (meth := k8m1) (c := k8c1) (by decide +kernel) rfl rfl rfl (by decide +kernel)
set_option maxRecDepth 65536 in
theorem w_c7 : (Jvm.Cond.code ({ cls := "java/lang/Number", name := "<init>", desc := "()V" } : Jvm.MethodName) jdk_18_method_1_code (1 : Nat) (Option.none : Option Jvm.ClassFile.FieldType)).before args0 about1 = true := code_word (m := ⟨4, 0⟩) (meth := k4m0) (c := k4c0) (by decide +kernel) rfl rfl rfl (by decide +kernel)
def codes1 : List Jvm.Cond := [Jvm.Cond.code x code maxLocals ret, Jvm.Cond.code ({ cls := "com/example/lading/lading/core/Occurrence", name := "<init>", desc := "(JLjava/lang/Long;)V" } : Jvm.MethodName) prog_25_method_1_code (4 : Nat) (Option.none : Option Jvm.ClassFile.FieldType), Jvm.Cond.code ({ cls := "java/lang/Object", name := "<init>", desc := "()V" } : Jvm.MethodName) object_method_1_code (1 : Nat) (Option.none : Option Jvm.ClassFile.FieldType), Jvm.Cond.code ({ cls := "com/example/lading/lading/core/Occurrence", name := "isFixed", desc := "()Z" } : Jvm.MethodName) prog_25_method_4_code (1 : Nat) (Option.some Jvm.ClassFile.FieldType.boolean), Jvm.Cond.code ({ cls := "java/lang/Long", name := "valueOf", desc := "(J)Ljava/lang/Long;" } : Jvm.MethodName) jdk_35_method_24_code (3 : Nat) (Option.some (Jvm.ClassFile.FieldType.object "java/lang/Long")), Jvm.Cond.code ({ cls := "java/lang/Long", name := "longValue", desc := "()J" } : Jvm.MethodName) jdk_35_method_31_code (1 : Nat) (Option.some Jvm.ClassFile.FieldType.long), Jvm.Cond.code ({ cls := "java/lang/Long", name := "<init>", desc := "(J)V" } : Jvm.MethodName) jdk_35_method_26_code (3 : Nat) (Option.none : Option Jvm.ClassFile.FieldType), Jvm.Cond.code ({ cls := "java/lang/Number", name := "<init>", desc := "()V" } : Jvm.MethodName) jdk_18_method_1_code (1 : Nat) (Option.none : Option Jvm.ClassFile.FieldType)]
set_option maxRecDepth 65536 in
theorem codes_eq : words1.filter isCode = codes1 := rfl
theorem w_codes : ∀ c ∈ words1.filter isCode, c.before args0 about1 = true := by
  rw [codes_eq]
  intro c hc
  simp only [codes1, List.mem_cons, List.not_mem_nil, or_false] at hc
  rcases hc with rfl | rfl | rfl | rfl | rfl | rfl | rfl | rfl
  · exact w_c0
  · exact w_c1
  · exact w_c2
  · exact w_c3
  · exact w_c4
  · exact w_c5
  · exact w_c6
  · exact w_c7
set_option maxRecDepth 65536 in
theorem w_t1 : (words1.take 24).all (fun c => isCode c || c.before args0 about1) = true := by decide +kernel
set_option maxRecDepth 65536 in
theorem w_t2 : (words1.drop 24).all (fun c => isCode c || c.before args0 about1) = true := by decide +kernel
theorem w_tables : (allAtoms (Jvm.Cond.code x code maxLocals ret :: tables_1)).before args0 about1 = true := by
  rw [allAtoms_all]
  show words1.all (fun c => c.before args0 about1) = true
  refine all_split ?_ w_codes
  rw [← List.take_append_drop 24 words1, List.all_append, w_t1, w_t2]
  rfl
set_option maxRecDepth 65536 in
theorem w_rest : rest_1_c.before args0 about1 = true := by decide +kernel
set_option maxRecDepth 65536 in
theorem w_case : (Jvm.Cond.and given_1 narrow_1).before args0 about1 = true := by decide +kernel
theorem w_applies : (headSpec (Jvm.Cond.code x code maxLocals ret :: tables_1) room_1).applies x e0.platform about1 = true :=
  (Spec.applies_iff w_frames).mpr ⟨w_running, w_runnable, w_alone, w_named, w_hears, w_ripe, w_room, w_tables⟩
theorem atStart : AtStart classFile x code maxLocals ret World_1 tables_1 room_1 Calls_1 rest_1 Pre_1 launch0 p0 e0 about1 theMethod args0 below0 :=
  ⟨lists_1, trivial, launch0.admits_env _ _ _, launch0.least_env, fairChoices_fair.cas, fairChoices_fair.clock, w_frames, w_args, w_heap, w_applies, trivial, w_rest, w_case⟩
end start1
theorem witness_1 : WitnessClaimed_1 := ⟨start1.p0, start1.e0, start1.about1, start1.theMethod, start1.args0, start1.below0, start1.atStart⟩
end Jvm.Pilot.@@N@@
