import JvmDerived
import JvmDerived.Pilot.@@N@@Statement
import JvmDerived.Pilot.@@N@@Code
set_option linter.unusedVariables false
set_option linter.unusedSimpArgs false
namespace Jvm.RoadKit
open Sem ClassFile Op Lib Jvm.Stand Jvm.Free Jvm.LawKit
section New
variable {p : Program} {l : Launch} {e : Env} {R : Room} {s : State} {m : MethodId} {args : Array Value} {below : List Frame} {meth : Method} {c : Code} {T : State} {locs : List Loc} {cells slots : Nat}
theorem own_retV (X : Stand p l e R s m args below meth c T locs cells slots) (hx : p.tables.exec = Jvm.exec) {pc : Nat} {Ls : Array Slot} {w : Value} {rest : List Value} {t : FieldType} (hret : meth.sig.returnType = some t) (ht : t.isReference = true) (hw : w.isRef = true)
    (hd : decode c.code pc = .ok (.areturn, 1)) {fs : List Frame} (hl : ∀ (f : JFrame) (acts : List Action), f.method = m → f.locked = none → f.entered = [] → (doReturn e (T.setTop f) acts (some w)).1 = T.setFrames fs) :
    Steps p.tables e below (T.setTop (mkF m pc Ls (w :: rest))) (T.setFrames fs) :=
  retOut X hx hret (by cases t <;> first | rfl | cases ht) (Or.inr (Or.inr (Or.inr (Or.inr ⟨rfl, ht, hw⟩)))) hd hl
theorem own_retI (X : Stand p l e R s m args below meth c T locs cells slots) (hx : p.tables.exec = Jvm.exec) {pc : Nat} {Ls : Array Slot} {z : Int32} {rest : List Value} (hret : meth.sig.returnType = some .int)
    (hd : decode c.code pc = .ok (.ireturn, 1)) {fs : List Frame} (hl : ∀ (f : JFrame) (acts : List Action), f.method = m → f.locked = none → f.entered = [] → (doReturn e (T.setTop f) acts (some (.int z))).1 = T.setFrames fs) :
    Steps p.tables e below (T.setTop (mkF m pc Ls (.int z :: rest))) (T.setFrames fs) :=
  retOut X hx hret rfl (Or.inl ⟨rfl, Or.inl rfl, z, rfl⟩) hd hl
theorem own_retL (X : Stand p l e R s m args below meth c T locs cells slots) (hx : p.tables.exec = Jvm.exec) {pc : Nat} {Ls : Array Slot} {z : Int64} {rest : List Value} (hret : meth.sig.returnType = some .long)
    (hd : decode c.code pc = .ok (.lreturn, 1)) {fs : List Frame} (hl : ∀ (f : JFrame) (acts : List Action), f.method = m → f.locked = none → f.entered = [] → (doReturn e (T.setTop f) acts (some (.long z))).1 = T.setFrames fs) :
    Steps p.tables e below (T.setTop (mkF m pc Ls (.long z :: rest))) (T.setFrames fs) :=
  retOut X hx hret rfl (Or.inr (Or.inl ⟨rfl, rfl, z, rfl⟩)) hd hl
theorem own_go {tb : Tables} {e : Env} {below : List Frame} {A A' : State} {P : State → Outcome → Prop} (st : ∀ t, Steps tb e below A' t → Steps tb e below A t) (h : ∃ s₂ o, Steps tb e below A' s₂ ∧ P s₂ o) : ∃ s₂ o, Steps tb e below A s₂ ∧ P s₂ o :=
  let ⟨s₂, o, h1, h2⟩ := h
  ⟨s₂, o, st _ h1, h2⟩
theorem own_fld_inj {Z : State} {h : Heap} {a : Addr} {C n d : String} {v w : Value} (F : Fld Z h a C n d v) (G : Fld Z h a C n d w) : v = w := by
  obtain ⟨c1, cf1, k1, i1, f1, p1, p2, -, -, -, -, p5⟩ := F
  obtain ⟨c2, cf2, k2, i2, f2, q1, q2, -, -, -, -, q5⟩ := G
  rw [p1] at q1; cases q1
  rw [p2] at q2; cases q2
  have := p5.symm.trans q5
  simpa using this
theorem own_fld_ne {Z : State} {h : Heap} {a b : Addr} {C n d : String} {i j : Int32} (F : Fld Z h a C n d (.int i)) (G : Fld Z h b C n d (.int j)) (hij : ¬ i = j) : ¬ a = b := fun q => by
  subst q
  exact hij (Value.int.inj (own_fld_inj F G))
theorem own_keep_ext {h h' : Heap} (K : Keep h h' []) : Ext h h' := ⟨K.1, fun a c q => K.2.1 a c q nin0⟩
theorem own_sta_keep {Z : State} {h h' : Heap} {C n d K : String} {v : Value} {a : Addr} (F : Sta Z h C n d v) (k : Keep h h' [a]) (E : Exa Z h a K) : Sta Z h' C n d v := by
  obtain ⟨cf, i, kk, f, st, cell, h1, h2, h3, h4, h5, h6, h7⟩ := F
  refine ⟨cf, i, kk, f, st, cell, h1, h2, h3, h4, k.2.1 _ _ h5 (ninS (fun q => ?_) nin0), h6, h7⟩
  obtain ⟨cell', k', g1, -, -, g4, -⟩ := E
  subst q
  cases h5.symm.trans g1
  rw [h6] at g4; cases g4
theorem own_ext_trans {h h' h'' : Heap} (E : Ext h h') (F : Ext h' h'') : Ext h h'' := ⟨Nat.le_trans E.1 F.1, fun a c q => F.2 a c (E.2 a c q)⟩
theorem own_ext_keep {h h' h'' : Heap} {ws : List Addr} (E : Ext h h') (K : Keep h' h'' ws) (q : ∀ x ∈ ws, h.size ≤ x) : Ext h h'' :=
  ⟨Nat.le_trans E.1 K.1, fun a c r => K.2.1 a c (E.2 a c r) fun z => absurd (Array.getElem?_eq_some_iff.mp r).1 (Nat.not_lt.mpr (q a z))⟩
theorem own_ext_wr {h h' h'' : Heap} {b : Addr} {sl : Nat} {v : Value} (E : Ext h h') (W : Wr h' h'' b sl v) (q : h.size ≤ b) : Ext h h'' :=
  own_ext_keep E (Keep.of_wr W) fun x hx => by cases List.mem_singleton.mp hx; exact q
end New
end Jvm.RoadKit
namespace Jvm.Pilot.@@N@@
open Jvm Jvm.ClassFile Sem Op Lib Jvm.Free Jvm.Stand Jvm.LawKit Jvm.RoadKit Bundle Jvm.Pilot.@@N@@.Jvm.D
def wc (n t : Int32) : Int32 := (((1 : Int32) + n) + (if t = (0 : Int32) then (0 : Int32) else (1 : Int32)))
theorem d1_0 : decode prog_40_method_7_code 0 = .ok (.iconst 1, 1) := by decide +kernel
theorem d1_1 : decode prog_40_method_7_code 1 = .ok (.aload_n 0, 1) := by decide +kernel
theorem d1_2 : decode prog_40_method_7_code 2 = .ok (.getfield 48, 3) := by decide +kernel
theorem d1_5 : decode prog_40_method_7_code 5 = .ok (.iadd, 1) := by decide +kernel
theorem d1_6 : decode prog_40_method_7_code 6 = .ok (.aload_n 0, 1) := by decide +kernel
theorem d1_7 : decode prog_40_method_7_code 7 = .ok (.getfield 52, 3) := by decide +kernel
theorem d1_10 : decode prog_40_method_7_code 10 = .ok (.ifCond .eq 7, 3) := by decide +kernel
theorem d1_13 : decode prog_40_method_7_code 13 = .ok (.iconst 1, 1) := by decide +kernel
theorem d1_14 : decode prog_40_method_7_code 14 = .ok (.goto 4, 3) := by decide +kernel
theorem d1_17 : decode prog_40_method_7_code 17 = .ok (.iconst 0, 1) := by decide +kernel
theorem d1_18 : decode prog_40_method_7_code 18 = .ok (.iadd, 1) := by decide +kernel
theorem d1_19 : decode prog_40_method_7_code 19 = .ok (.ireturn, 1) := by decide +kernel
theorem pn_1 : plainName "com/example/ithaca/ithaca/scenario/ScenarioEvent$Action" = true := by first | (simp [plainName, overriddenIn]; done) | decide +kernel
theorem ef_1 (m : MethodId) (r0 : Addr) : entryFrame m #[(.ref r0)] 1 = mkF m 0 #[.val (.ref r0)] [] := by first | (simp [entryFrame, mkF, argsToLocals, Value.category]; done) | rfl
def Q1 (Z : State) (r0 : Addr) (kn : Int32) (kt : Int32) (h0 : Heap) (n0 : Nat) (v : Option Value) (h : Heap) (L : List Loc) : Prop := v = some (.int (wc kn kt)) ∧ Fr n0 L ∧ h = h0
set_option maxRecDepth 65536 in
set_option maxHeartbeats 40000000 in
theorem rm1 (l : Launch) (Z : State) (a0 : Array Value) (hw : ∀ d ∈ tables_1, d.before a0 Z = true) (ws : List Jvm.Cond) (r0 : Addr) (kn : Int32) (kt : Int32) (h0 : Heap) (n0 : Nat) (Z0 : n0 ≤ h0.size) (F1 : Fld Z h0 r0 "com/example/ithaca/ithaca/scenario/ScenarioEvent$Action" "processCount" "I" (.int kn)) (F2 : Fld Z h0 r0 "com/example/ithaca/ithaca/scenario/ScenarioEvent$Action" "hasTicks" "Z" (.int kt)) :
    MetFree l (⟨"com/example/ithaca/ithaca/scenario/ScenarioEvent$Action", "wordCount", "()I"⟩ : MethodName) (head1 (Jvm.Cond.code (⟨"com/example/ithaca/ithaca/scenario/ScenarioEvent$Action", "wordCount", "()I"⟩ : MethodName) prog_40_method_7_code 1 (some .int) :: ws) ({ frames := 0, cells := 0, slots := 0, locals := 0 } : Room)) (fun a U => a = #[(.ref r0)] ∧ Z.Warmed39 U.vm ∧ U.heap = h0) (fun _ _ _ _ _ => True) (fun _ U o U' => ∃ v L, o = .returned v ∧ Q1 Z r0 kn kt h0 n0 v U'.heap L ∧ FrameEnd U o U' L ({ frames := 0, cells := 0, slots := 0, locals := 0 } : Room).cells ({ frames := 0, cells := 0, slots := 0, locals := 0 } : Room).slots) := by
  refine MetFree.of_bodySF (plainFor_of_name pn_1) hisR ?_
  intro p e s m args below meth c s₁ Bd hml0 hP hK
  obtain ⟨rfl, hZ, hh⟩ := hP
  have hx := Bd.exec
  have hby := Bd.bytes
  have hml : c.maxLocals = 1 := hml0
  have hown : s.vm.findClass "com/example/ithaca/ithaca/scenario/ScenarioEvent$Action" = some m.cls := findClass_of_methodNamed Bd.named
  have hnm := (name_of_methodNamed Bd.named Bd.method).1
  have X0 : Stand p l e ({ frames := 0, cells := 0, slots := 0, locals := 0 } : Room) s m #[(.ref r0)] below meth c s₁ [] 0 0 := Stand.of_body Bd
  have e0 : s₁.heap = h0 := by rw [← hh, Bd.state]; rfl
  have N0 := Fr.nil n0
  refine own_go (A' := (s₁.setTop (mkF m 0 #[.val (.ref r0)] []))) (fun t k => castTop (ef_1 m r0) k) ?_
  obtain ⟨T1, X1, e1, st1⟩ := getF X0 hx hZ hown (host := "") (Or.inl (hw _ (List.mem_of_getElem? (i := 9) rfl))) Via.refl e0 F1 (g := (mkF m 2 #[.val (.ref r0)] [(.ref r0), (.int (1 : Int32))])) rfl rfl (hb hby d1_2)
  obtain ⟨T2, X2, e2, st2⟩ := getF X1 hx hZ hown (host := "") (Or.inl (hw _ (List.mem_of_getElem? (i := 11) rfl))) Via.refl e1 F2 (g := (mkF m 7 #[.val (.ref r0)] [(.ref r0), (.int ((1 : Int32) + kn))])) rfl rfl (hb hby d1_7)
  refine own_go (A' := (T2.setTop (mkF m 10 #[.val (.ref r0)] [(.int kt), (.int ((1 : Int32) + kn))]))) (fun t k => ?_) ?_
  · show Steps p.tables e below (s₁.setTop (mkF m 0 #[.val (.ref r0)] [])) _
    refine XS.iconst X0.here hx rfl (hb hby d1_0) ?_
    show Steps p.tables e below (s₁.setTop (mkF m 1 #[.val (.ref r0)] [(.int (1 : Int32))])) _
    refine XS.aloadN X0.here hx rfl (hb hby d1_1) rfl rfl ?_
    show Steps p.tables e below (s₁.setTop (mkF m 2 #[.val (.ref r0)] [(.ref r0), (.int (1 : Int32))])) _
    refine st1 _ ?_
    show Steps p.tables e below (T1.setTop (mkF m 5 #[.val (.ref r0)] [(.int kn), (.int (1 : Int32))])) _
    refine XS.iadd X1.here hx rfl (hb hby d1_5) rfl ?_
    show Steps p.tables e below (T1.setTop (mkF m 6 #[.val (.ref r0)] [(.int ((1 : Int32) + kn))])) _
    refine XS.aloadN X1.here hx rfl (hb hby d1_6) rfl rfl ?_
    show Steps p.tables e below (T1.setTop (mkF m 7 #[.val (.ref r0)] [(.ref r0), (.int ((1 : Int32) + kn))])) _
    refine st2 _ ?_
    exact k
  by_cases hc3 : kt = (0 : Int32)
  · -- hc3: yes
    refine own_go (A' := (T2.setTop (mkF m 17 #[.val (.ref r0)] [(.int ((1 : Int32) + kn))]))) (fun t k => XS.ifYes X2.here hx rfl (pc0 := 10) (pc' := 17) rfl (hb hby d1_10) rfl ((if0 _ _).trans (teq hc3).1) (by decide) (by decide) k) ?_
    refine own_go (A' := (T2.setTop (mkF m 19 #[.val (.ref r0)] [(.int (((1 : Int32) + kn) + (0 : Int32)))]))) (fun t k => ?_) ?_
    · show Steps p.tables e below (T2.setTop (mkF m 17 #[.val (.ref r0)] [(.int ((1 : Int32) + kn))])) _
      refine XS.iconst X2.here hx rfl (hb hby d1_17) ?_
      show Steps p.tables e below (T2.setTop (mkF m 18 #[.val (.ref r0)] [(.int (0 : Int32)), (.int ((1 : Int32) + kn))])) _
      refine XS.iadd X2.here hx rfl (hb hby d1_18) rfl ?_
      exact k
    obtain ⟨fs, hr, hrun, hended, hW, hsame⟩ := X2.leave (v := some (.int (((1 : Int32) + kn) + (0 : Int32)))) (fun h => by rw [Bd.returns] at h; cases h)
    refine ⟨_, _, ?_, hrun, hended, _, _, rfl, ?_, ⟨_, rfl⟩, hW, hsame.mono (by decide) (by decide)⟩
    · show Steps p.tables e below (T2.setTop (mkF m 19 #[.val (.ref r0)] [(.int (((1 : Int32) + kn) + (0 : Int32)))])) _
      exact own_retI X2 hx Bd.returns (hb hby d1_19) hr
    · show Q1 Z r0 kn kt h0 n0 _ _ _
      exact ⟨(by rw [wc, if_pos hc3]), N0, e2⟩
  · -- hc3: no
    refine own_go (A' := (T2.setTop (mkF m 13 #[.val (.ref r0)] [(.int ((1 : Int32) + kn))]))) (fun t k => XS.ifNo X2.here hx rfl (hb hby d1_10) rfl ((if0 _ _).trans (feq hc3).1) k) ?_
    refine own_go (A' := (T2.setTop (mkF m 19 #[.val (.ref r0)] [(.int (((1 : Int32) + kn) + (1 : Int32)))]))) (fun t k => ?_) ?_
    · show Steps p.tables e below (T2.setTop (mkF m 13 #[.val (.ref r0)] [(.int ((1 : Int32) + kn))])) _
      refine XS.iconst X2.here hx rfl (hb hby d1_13) ?_
      show Steps p.tables e below (T2.setTop (mkF m 14 #[.val (.ref r0)] [(.int (1 : Int32)), (.int ((1 : Int32) + kn))])) _
      refine XS.goto X2.here hx rfl (pc0 := 14) (pc' := 18) rfl (hb hby d1_14) (by decide) (by decide) ?_
      show Steps p.tables e below (T2.setTop (mkF m 18 #[.val (.ref r0)] [(.int (1 : Int32)), (.int ((1 : Int32) + kn))])) _
      refine XS.iadd X2.here hx rfl (hb hby d1_18) rfl ?_
      exact k
    obtain ⟨fs, hr, hrun, hended, hW, hsame⟩ := X2.leave (v := some (.int (((1 : Int32) + kn) + (1 : Int32)))) (fun h => by rw [Bd.returns] at h; cases h)
    refine ⟨_, _, ?_, hrun, hended, _, _, rfl, ?_, ⟨_, rfl⟩, hW, hsame.mono (by decide) (by decide)⟩
    · show Steps p.tables e below (T2.setTop (mkF m 19 #[.val (.ref r0)] [(.int (((1 : Int32) + kn) + (1 : Int32)))])) _
      exact own_retI X2 hx Bd.returns (hb hby d1_19) hr
    · show Q1 Z r0 kn kt h0 n0 _ _ _
      exact ⟨(by rw [wc, if_neg hc3]), N0, e2⟩
theorem pd_0 : parseMethodDescriptor "()I" = some ⟨[], some .int⟩ := by decide +kernel
theorem pn_0 : plainName "com/example/ithaca/ithaca/scenario/ActionWordCountPinLaw" = true := by first | (simp [plainName, overriddenIn]; done) | decide +kernel
theorem ef_0 (m : MethodId) (p0 : Int32) : entryFrame m #[(.int p0)] maxLocals = mkF m 0 #[.val (.int p0), .unset, .unset, .unset] [] := by first | (simp [entryFrame, mkF, argsToLocals, Value.category, maxLocals]; done) | rfl
def Q0 (Z : State) (p0 : Int32) (w_CRASH : Addr) (w_RESTART : Addr) (w_RESUME : Addr) (w_DELAY : Addr) (w_PAUSE : Addr) (w_START : Addr) (w_DETECT : Addr) (h0 : Heap) (n0 : Nat) (v : Option Value) (h : Heap) (L : List Loc) : Prop := v = some (.int (1 : Int32)) ∧ Fr n0 L
set_option maxRecDepth 65536 in
set_option maxHeartbeats 40000000 in
theorem rm0 (l : Launch) (Z : State) (a0 : Array Value) (hw : ∀ d ∈ tables_1, d.before a0 Z = true) (ws : List Jvm.Cond) (p0 : Int32) (w_CRASH : Addr) (w_RESTART : Addr) (w_RESUME : Addr) (w_DELAY : Addr) (w_PAUSE : Addr) (w_START : Addr) (w_DETECT : Addr) (h0 : Heap) (n0 : Nat) (Z0 : n0 ≤ h0.size) (S_CRASH : Sta Z h0 "com/example/ithaca/ithaca/scenario/ScenarioEvent$Action" "CRASH" "Lcom/example/ithaca/ithaca/scenario/ScenarioEvent$Action;" (.ref w_CRASH)) (S_RESTART : Sta Z h0 "com/example/ithaca/ithaca/scenario/ScenarioEvent$Action" "RESTART" "Lcom/example/ithaca/ithaca/scenario/ScenarioEvent$Action;" (.ref w_RESTART)) (S_RESUME : Sta Z h0 "com/example/ithaca/ithaca/scenario/ScenarioEvent$Action" "RESUME" "Lcom/example/ithaca/ithaca/scenario/ScenarioEvent$Action;" (.ref w_RESUME)) (S_DELAY : Sta Z h0 "com/example/ithaca/ithaca/scenario/ScenarioEvent$Action" "DELAY" "Lcom/example/ithaca/ithaca/scenario/ScenarioEvent$Action;" (.ref w_DELAY)) (S_PAUSE : Sta Z h0 "com/example/ithaca/ithaca/scenario/ScenarioEvent$Action" "PAUSE" "Lcom/example/ithaca/ithaca/scenario/ScenarioEvent$Action;" (.ref w_PAUSE)) (S_START : Sta Z h0 "com/example/ithaca/ithaca/scenario/ScenarioEvent$Action" "START" "Lcom/example/ithaca/ithaca/scenario/ScenarioEvent$Action;" (.ref w_START)) (S_DETECT : Sta Z h0 "com/example/ithaca/ithaca/scenario/ScenarioEvent$Action" "DETECT" "Lcom/example/ithaca/ithaca/scenario/ScenarioEvent$Action;" (.ref w_DETECT)) (E_CRASH : Exa Z h0 w_CRASH "com/example/ithaca/ithaca/scenario/ScenarioEvent$Action") (E_RESTART : Exa Z h0 w_RESTART "com/example/ithaca/ithaca/scenario/ScenarioEvent$Action") (E_RESUME : Exa Z h0 w_RESUME "com/example/ithaca/ithaca/scenario/ScenarioEvent$Action") (E_DELAY : Exa Z h0 w_DELAY "com/example/ithaca/ithaca/scenario/ScenarioEvent$Action") (E_PAUSE : Exa Z h0 w_PAUSE "com/example/ithaca/ithaca/scenario/ScenarioEvent$Action") (E_START : Exa Z h0 w_START "com/example/ithaca/ithaca/scenario/ScenarioEvent$Action") (E_DETECT : Exa Z h0 w_DETECT "com/example/ithaca/ithaca/scenario/ScenarioEvent$Action") (O_CRASH_processCount : Fld Z h0 w_CRASH "com/example/ithaca/ithaca/scenario/ScenarioEvent$Action" "processCount" "I" (.int (1 : Int32))) (O_CRASH_hasTicks : Fld Z h0 w_CRASH "com/example/ithaca/ithaca/scenario/ScenarioEvent$Action" "hasTicks" "Z" (.int (0 : Int32))) (O_RESTART_processCount : Fld Z h0 w_RESTART "com/example/ithaca/ithaca/scenario/ScenarioEvent$Action" "processCount" "I" (.int (1 : Int32))) (O_RESTART_hasTicks : Fld Z h0 w_RESTART "com/example/ithaca/ithaca/scenario/ScenarioEvent$Action" "hasTicks" "Z" (.int (0 : Int32))) (O_RESUME_processCount : Fld Z h0 w_RESUME "com/example/ithaca/ithaca/scenario/ScenarioEvent$Action" "processCount" "I" (.int (1 : Int32))) (O_RESUME_hasTicks : Fld Z h0 w_RESUME "com/example/ithaca/ithaca/scenario/ScenarioEvent$Action" "hasTicks" "Z" (.int (0 : Int32))) (O_DELAY_processCount : Fld Z h0 w_DELAY "com/example/ithaca/ithaca/scenario/ScenarioEvent$Action" "processCount" "I" (.int (2 : Int32))) (O_DELAY_hasTicks : Fld Z h0 w_DELAY "com/example/ithaca/ithaca/scenario/ScenarioEvent$Action" "hasTicks" "Z" (.int (1 : Int32))) (O_PAUSE_processCount : Fld Z h0 w_PAUSE "com/example/ithaca/ithaca/scenario/ScenarioEvent$Action" "processCount" "I" (.int (1 : Int32))) (O_PAUSE_hasTicks : Fld Z h0 w_PAUSE "com/example/ithaca/ithaca/scenario/ScenarioEvent$Action" "hasTicks" "Z" (.int (0 : Int32))) (O_START_processCount : Fld Z h0 w_START "com/example/ithaca/ithaca/scenario/ScenarioEvent$Action" "processCount" "I" (.int (1 : Int32))) (O_START_hasTicks : Fld Z h0 w_START "com/example/ithaca/ithaca/scenario/ScenarioEvent$Action" "hasTicks" "Z" (.int (0 : Int32))) (O_DETECT_processCount : Fld Z h0 w_DETECT "com/example/ithaca/ithaca/scenario/ScenarioEvent$Action" "processCount" "I" (.int (2 : Int32))) (O_DETECT_hasTicks : Fld Z h0 w_DETECT "com/example/ithaca/ithaca/scenario/ScenarioEvent$Action" "hasTicks" "Z" (.int (0 : Int32))) :
    MetFree l x (head1 (Jvm.Cond.code x code maxLocals ret :: ws) room_1) (fun a U => a = #[(.int p0)] ∧ Z.Warmed39 U.vm ∧ U.heap = h0) (fun _ _ _ _ _ => True) (fun _ U o U' => ∃ v L, o = .returned v ∧ Q0 Z p0 w_CRASH w_RESTART w_RESUME w_DELAY w_PAUSE w_START w_DETECT h0 n0 v U'.heap L ∧ FrameEnd U o U' L room_1.cells room_1.slots) := by
  refine MetFree.of_bodySF (plainFor_of_name pn_0) hisR ?_
  intro p e s m args below meth c s₁ Bd hml0 hP hK
  obtain ⟨rfl, hZ, hh⟩ := hP
  have hx := Bd.exec
  have hby := Bd.bytes
  have hml : c.maxLocals = 4 := hml0
  have hown : s.vm.findClass "com/example/ithaca/ithaca/scenario/ActionWordCountPinLaw" = some m.cls := findClass_of_methodNamed Bd.named
  have hnm := (name_of_methodNamed Bd.named Bd.method).1
  have X0 : Stand p l e room_1 s m #[(.int p0)] below meth c s₁ [] 0 0 := Stand.of_body Bd
  have e0 : s₁.heap = h0 := by rw [← hh, Bd.state]; rfl
  have N0 := Fr.nil n0
  refine own_go (A' := (s₁.setTop (mkF m 0 #[.val (.int p0), .unset, .unset, .unset] []))) (fun t k => castTop (ef_0 m p0) k) ?_
  refine own_go (A' := (s₁.setTop (mkF m 9 #[.val (.int p0), .val (.int ((p0 &&& (2147483647 : Int32)) % (7 : Int32))), .unset, .unset] [(.int ((p0 &&& (2147483647 : Int32)) % (7 : Int32)))]))) (fun t k => ?_) ?_
  · show Steps p.tables e below (s₁.setTop (mkF m 0 #[.val (.int p0), .unset, .unset, .unset] [])) _
    refine XS.iloadN X0.here hx rfl (hb hby at_0) rfl ?_
    show Steps p.tables e below (s₁.setTop (mkF m 1 #[.val (.int p0), .unset, .unset, .unset] [(.int p0)])) _
    refine X0.ldcInt hx hown (mvT hZ (hw _ (List.mem_of_getElem? (i := 0) rfl))) (g := (mkF m 1 #[.val (.int p0), .unset, .unset, .unset] [(.int p0)])) rfl (hb hby at_1) _ ?_
    show Steps p.tables e below (s₁.setTop (mkF m 3 #[.val (.int p0), .unset, .unset, .unset] [(.int (2147483647 : Int32)), (.int p0)])) _
    refine XS.iand X0.here hx rfl (hb hby at_3) rfl ?_
    show Steps p.tables e below (s₁.setTop (mkF m 4 #[.val (.int p0), .unset, .unset, .unset] [(.int (p0 &&& (2147483647 : Int32)))])) _
    refine XS.bipush X0.here hx rfl (hb hby at_4) ?_
    show Steps p.tables e below (s₁.setTop (mkF m 6 #[.val (.int p0), .unset, .unset, .unset] [(.int (7 : Int32)), (.int (p0 &&& (2147483647 : Int32)))])) _
    refine iremM X0 hx (g := (mkF m 6 #[.val (.int p0), .unset, .unset, .unset] [(.int (7 : Int32)), (.int (p0 &&& (2147483647 : Int32)))])) rfl (hb hby at_6) rfl (by decide) ?_
    show Steps p.tables e below (s₁.setTop (mkF m 7 #[.val (.int p0), .unset, .unset, .unset] [(.int ((p0 &&& (2147483647 : Int32)) % (7 : Int32)))])) _
    refine XS.istoreN X0.here hx rfl (hb hby at_7) rfl (l' := #[.val (.int p0), .val (.int ((p0 &&& (2147483647 : Int32)) % (7 : Int32))), .unset, .unset]) rfl ?_
    show Steps p.tables e below (s₁.setTop (mkF m 8 #[.val (.int p0), .val (.int ((p0 &&& (2147483647 : Int32)) % (7 : Int32))), .unset, .unset] [])) _
    refine XS.iloadN X0.here hx rfl (hb hby at_8) rfl ?_
    exact k
  by_cases hc4 : ((p0 &&& (2147483647 : Int32)) % (7 : Int32)) = (0 : Int32)
  · -- hc4: yes
    refine own_go (A' := (s₁.setTop (mkF m 12 #[.val (.int p0), .val (.int ((p0 &&& (2147483647 : Int32)) % (7 : Int32))), .unset, .unset] []))) (fun t k => XS.ifNo X0.here hx rfl (hb hby at_9) rfl ((if0 _ _).trans (teq hc4).2) k) ?_
    obtain ⟨T5, X5, e5, st5⟩ := getS2 X0 hx hZ hown (host := "") (Or.inl (hw _ (List.mem_of_getElem? (i := 1) rfl))) Via.refl e0 S_CRASH (g := (mkF m 12 #[.val (.int p0), .val (.int ((p0 &&& (2147483647 : Int32)) % (7 : Int32))), .unset, .unset] [])) rfl (hb hby at_12)
    obtain ⟨cq6, kq6, q6a, q6b, q6c⟩ := isOf hZ e5 E_CRASH
    obtain ⟨_, _, ⟨T6, L6, k6, n6⟩, -, X6, ⟨Lc6, hQ6, l6, y6, z6⟩, st6⟩ := X5.virtualBack hx (y := (⟨"com/example/ithaca/ithaca/scenario/ScenarioEvent$Action", "wordCount", "()I"⟩ : MethodName)) (z := (⟨"com/example/ithaca/ithaca/scenario/ScenarioEvent$Action", "wordCount", "()I"⟩ : MethodName)) hown (mvT hZ (hw _ (List.mem_of_getElem? (i := 4) rfl))) (mvT hZ (hw _ (List.mem_of_getElem? (i := 5) rfl))) (notFace_of_selects (args := #[]) (mvT hZ (hw _ (List.mem_of_getElem? (i := 7) rfl)))) (mvT hZ (hw _ (List.mem_of_getElem? (i := 7) rfl))) (mvT hZ (hw _ (List.mem_of_getElem? (i := 6) rfl))) (by decide) (backOf (W := 0) (rm1 l Z a0 hw [] w_CRASH (1 : Int32) (0 : Int32) h0 n0 Z0 O_CRASH_processCount O_CRASH_hasTicks) hZ (hw _ (List.mem_of_getElem? (i := 8) rfl)) (hw _ (List.mem_of_getElem? (i := 2) rfl)) (by decide) (by decide)) q6a q6c (g := (mkF m 98 #[.val (.int p0), .val (.int ((p0 &&& (2147483647 : Int32)) % (7 : Int32))), .val (.ref w_CRASH), .val (.int (2 : Int32))] [(.ref w_CRASH)])) rfl (by rw [hml]; rfl) (Steps.refl _) (argsL := []) (rest := []) (lenOf pd_0 rfl) rfl (by show 2 * 0 + _ ≤ _; exact Nat.le_of_eq rfl) (hb hby at_98) (fun _ _ => ⟨rfl, e5, (by decide : 0 + 0 ≤ _), (by decide : 0 + 0 ≤ _)⟩)
    dsimp only [Pt.U, Pt.locs, Pt.cells, Pt.slots] at X6 l6 y6 z6 st6 hQ6
    subst l6 y6 z6
    obtain ⟨rfl, N6q, e6⟩ := hQ6
    have N6 := Fr.app N0 N6q
    refine own_go (A' := (T6.setTop (mkF m 102 #[.val (.int p0), .val (.int ((p0 &&& (2147483647 : Int32)) % (7 : Int32))), .val (.ref w_CRASH), .val (.int (2 : Int32))] [(.int (2 : Int32)), (.int (wc (1 : Int32) (0 : Int32)))]))) (fun t k => ?_) ?_
    · show Steps p.tables e below (s₁.setTop (mkF m 12 #[.val (.int p0), .val (.int ((p0 &&& (2147483647 : Int32)) % (7 : Int32))), .unset, .unset] [])) _
      refine st5 _ ?_
      show Steps p.tables e below (T5.setTop (mkF m 15 #[.val (.int p0), .val (.int ((p0 &&& (2147483647 : Int32)) % (7 : Int32))), .unset, .unset] [(.ref w_CRASH)])) _
      refine XS.astoreN X5.here hx rfl (hb hby at_15) rfl rfl (l' := #[.val (.int p0), .val (.int ((p0 &&& (2147483647 : Int32)) % (7 : Int32))), .val (.ref w_CRASH), .unset]) rfl ?_
      show Steps p.tables e below (T5.setTop (mkF m 16 #[.val (.int p0), .val (.int ((p0 &&& (2147483647 : Int32)) % (7 : Int32))), .val (.ref w_CRASH), .unset] [])) _
      refine XS.iconst X5.here hx rfl (hb hby at_16) ?_
      show Steps p.tables e below (T5.setTop (mkF m 17 #[.val (.int p0), .val (.int ((p0 &&& (2147483647 : Int32)) % (7 : Int32))), .val (.ref w_CRASH), .unset] [(.int (2 : Int32))])) _
      refine XS.istoreN X5.here hx rfl (hb hby at_17) rfl (l' := #[.val (.int p0), .val (.int ((p0 &&& (2147483647 : Int32)) % (7 : Int32))), .val (.ref w_CRASH), .val (.int (2 : Int32))]) rfl ?_
      show Steps p.tables e below (T5.setTop (mkF m 18 #[.val (.int p0), .val (.int ((p0 &&& (2147483647 : Int32)) % (7 : Int32))), .val (.ref w_CRASH), .val (.int (2 : Int32))] [])) _
      refine XS.goto X5.here hx rfl (pc0 := 18) (pc' := 97) rfl (hb hby at_18) (by decide) (by decide) ?_
      show Steps p.tables e below (T5.setTop (mkF m 97 #[.val (.int p0), .val (.int ((p0 &&& (2147483647 : Int32)) % (7 : Int32))), .val (.ref w_CRASH), .val (.int (2 : Int32))] [])) _
      refine XS.aloadN X5.here hx rfl (hb hby at_97) rfl rfl ?_
      show Steps p.tables e below (T5.setTop (mkF m 98 #[.val (.int p0), .val (.int ((p0 &&& (2147483647 : Int32)) % (7 : Int32))), .val (.ref w_CRASH), .val (.int (2 : Int32))] [(.ref w_CRASH)])) _
      refine st6.trans ?_
      show Steps p.tables e below (T6.setTop (mkF m 101 #[.val (.int p0), .val (.int ((p0 &&& (2147483647 : Int32)) % (7 : Int32))), .val (.ref w_CRASH), .val (.int (2 : Int32))] [(.int (wc (1 : Int32) (0 : Int32)))])) _
      refine XS.iloadN X6.here hx rfl (hb hby at_101) rfl ?_
      exact k
    refine own_go (A' := (T6.setTop (mkF m 105 #[.val (.int p0), .val (.int ((p0 &&& (2147483647 : Int32)) % (7 : Int32))), .val (.ref w_CRASH), .val (.int (2 : Int32))] []))) (fun t k => XS.icmpNo X6.here hx rfl (hb hby at_102) rfl (teq (by decide)).2 k) ?_
    refine own_go (A' := (T6.setTop (mkF m 110 #[.val (.int p0), .val (.int ((p0 &&& (2147483647 : Int32)) % (7 : Int32))), .val (.ref w_CRASH), .val (.int (2 : Int32))] [(.int (1 : Int32))]))) (fun t k => ?_) ?_
    · show Steps p.tables e below (T6.setTop (mkF m 105 #[.val (.int p0), .val (.int ((p0 &&& (2147483647 : Int32)) % (7 : Int32))), .val (.ref w_CRASH), .val (.int (2 : Int32))] [])) _
      refine XS.iconst X6.here hx rfl (hb hby at_105) ?_
      show Steps p.tables e below (T6.setTop (mkF m 106 #[.val (.int p0), .val (.int ((p0 &&& (2147483647 : Int32)) % (7 : Int32))), .val (.ref w_CRASH), .val (.int (2 : Int32))] [(.int (1 : Int32))])) _
      refine XS.goto X6.here hx rfl (pc0 := 106) (pc' := 110) rfl (hb hby at_106) (by decide) (by decide) ?_
      exact k
    obtain ⟨fs, hr, hrun, hended, hW, hsame⟩ := X6.leave (v := some (.int (1 : Int32))) (fun h => by rw [Bd.returns] at h; cases h)
    refine ⟨_, _, ?_, hrun, hended, _, _, rfl, ?_, ⟨_, rfl⟩, hW, hsame.mono (by decide) (by decide)⟩
    · show Steps p.tables e below (T6.setTop (mkF m 110 #[.val (.int p0), .val (.int ((p0 &&& (2147483647 : Int32)) % (7 : Int32))), .val (.ref w_CRASH), .val (.int (2 : Int32))] [(.int (1 : Int32))])) _
      exact retN X6 hx (t := .boolean) Bd.returns (by simp) (hb hby at_110) hr
    · show Q0 Z p0 w_CRASH w_RESTART w_RESUME w_DELAY w_PAUSE w_START w_DETECT h0 n0 _ _ _
      exact ⟨rfl, N6⟩
  · -- hc4: no
    refine own_go (A' := (s₁.setTop (mkF m 21 #[.val (.int p0), .val (.int ((p0 &&& (2147483647 : Int32)) % (7 : Int32))), .unset, .unset] []))) (fun t k => XS.ifYes X0.here hx rfl (pc0 := 9) (pc' := 21) rfl (hb hby at_9) rfl ((if0 _ _).trans (feq hc4).2) (by decide) (by decide) k) ?_
    refine own_go (A' := (s₁.setTop (mkF m 23 #[.val (.int p0), .val (.int ((p0 &&& (2147483647 : Int32)) % (7 : Int32))), .unset, .unset] [(.int (1 : Int32)), (.int ((p0 &&& (2147483647 : Int32)) % (7 : Int32)))]))) (fun t k => ?_) ?_
    · show Steps p.tables e below (s₁.setTop (mkF m 21 #[.val (.int p0), .val (.int ((p0 &&& (2147483647 : Int32)) % (7 : Int32))), .unset, .unset] [])) _
      refine XS.iloadN X0.here hx rfl (hb hby at_21) rfl ?_
      show Steps p.tables e below (s₁.setTop (mkF m 22 #[.val (.int p0), .val (.int ((p0 &&& (2147483647 : Int32)) % (7 : Int32))), .unset, .unset] [(.int ((p0 &&& (2147483647 : Int32)) % (7 : Int32)))])) _
      refine XS.iconst X0.here hx rfl (hb hby at_22) ?_
      exact k
    by_cases hc7 : ((p0 &&& (2147483647 : Int32)) % (7 : Int32)) = (1 : Int32)
    · -- hc7: yes
      refine own_go (A' := (s₁.setTop (mkF m 26 #[.val (.int p0), .val (.int ((p0 &&& (2147483647 : Int32)) % (7 : Int32))), .unset, .unset] []))) (fun t k => XS.icmpNo X0.here hx rfl (hb hby at_23) rfl (teq hc7).2 k) ?_
      obtain ⟨T8, X8, e8, st8⟩ := getS2 X0 hx hZ hown (host := "") (Or.inl (hw _ (List.mem_of_getElem? (i := 23) rfl))) Via.refl e0 S_DETECT (g := (mkF m 26 #[.val (.int p0), .val (.int ((p0 &&& (2147483647 : Int32)) % (7 : Int32))), .unset, .unset] [])) rfl (hb hby at_26)
      obtain ⟨cq9, kq9, q9a, q9b, q9c⟩ := isOf hZ e8 E_DETECT
      obtain ⟨_, _, ⟨T9, L9, k9, n9⟩, -, X9, ⟨Lc9, hQ9, l9, y9, z9⟩, st9⟩ := X8.virtualBack hx (y := (⟨"com/example/ithaca/ithaca/scenario/ScenarioEvent$Action", "wordCount", "()I"⟩ : MethodName)) (z := (⟨"com/example/ithaca/ithaca/scenario/ScenarioEvent$Action", "wordCount", "()I"⟩ : MethodName)) hown (mvT hZ (hw _ (List.mem_of_getElem? (i := 4) rfl))) (mvT hZ (hw _ (List.mem_of_getElem? (i := 5) rfl))) (notFace_of_selects (args := #[]) (mvT hZ (hw _ (List.mem_of_getElem? (i := 7) rfl)))) (mvT hZ (hw _ (List.mem_of_getElem? (i := 7) rfl))) (mvT hZ (hw _ (List.mem_of_getElem? (i := 6) rfl))) (by decide) (backOf (W := 0) (rm1 l Z a0 hw [] w_DETECT (2 : Int32) (0 : Int32) h0 n0 Z0 O_DETECT_processCount O_DETECT_hasTicks) hZ (hw _ (List.mem_of_getElem? (i := 8) rfl)) (hw _ (List.mem_of_getElem? (i := 2) rfl)) (by decide) (by decide)) q9a q9c (g := (mkF m 98 #[.val (.int p0), .val (.int ((p0 &&& (2147483647 : Int32)) % (7 : Int32))), .val (.ref w_DETECT), .val (.int (3 : Int32))] [(.ref w_DETECT)])) rfl (by rw [hml]; rfl) (Steps.refl _) (argsL := []) (rest := []) (lenOf pd_0 rfl) rfl (by show 2 * 0 + _ ≤ _; exact Nat.le_of_eq rfl) (hb hby at_98) (fun _ _ => ⟨rfl, e8, (by decide : 0 + 0 ≤ _), (by decide : 0 + 0 ≤ _)⟩)
      dsimp only [Pt.U, Pt.locs, Pt.cells, Pt.slots] at X9 l9 y9 z9 st9 hQ9
      subst l9 y9 z9
      obtain ⟨rfl, N9q, e9⟩ := hQ9
      have N9 := Fr.app N0 N9q
      refine own_go (A' := (T9.setTop (mkF m 102 #[.val (.int p0), .val (.int ((p0 &&& (2147483647 : Int32)) % (7 : Int32))), .val (.ref w_DETECT), .val (.int (3 : Int32))] [(.int (3 : Int32)), (.int (wc (2 : Int32) (0 : Int32)))]))) (fun t k => ?_) ?_
      · show Steps p.tables e below (s₁.setTop (mkF m 26 #[.val (.int p0), .val (.int ((p0 &&& (2147483647 : Int32)) % (7 : Int32))), .unset, .unset] [])) _
        refine st8 _ ?_
        show Steps p.tables e below (T8.setTop (mkF m 29 #[.val (.int p0), .val (.int ((p0 &&& (2147483647 : Int32)) % (7 : Int32))), .unset, .unset] [(.ref w_DETECT)])) _
        refine XS.astoreN X8.here hx rfl (hb hby at_29) rfl rfl (l' := #[.val (.int p0), .val (.int ((p0 &&& (2147483647 : Int32)) % (7 : Int32))), .val (.ref w_DETECT), .unset]) rfl ?_
        show Steps p.tables e below (T8.setTop (mkF m 30 #[.val (.int p0), .val (.int ((p0 &&& (2147483647 : Int32)) % (7 : Int32))), .val (.ref w_DETECT), .unset] [])) _
        refine XS.iconst X8.here hx rfl (hb hby at_30) ?_
        show Steps p.tables e below (T8.setTop (mkF m 31 #[.val (.int p0), .val (.int ((p0 &&& (2147483647 : Int32)) % (7 : Int32))), .val (.ref w_DETECT), .unset] [(.int (3 : Int32))])) _
        refine XS.istoreN X8.here hx rfl (hb hby at_31) rfl (l' := #[.val (.int p0), .val (.int ((p0 &&& (2147483647 : Int32)) % (7 : Int32))), .val (.ref w_DETECT), .val (.int (3 : Int32))]) rfl ?_
        show Steps p.tables e below (T8.setTop (mkF m 32 #[.val (.int p0), .val (.int ((p0 &&& (2147483647 : Int32)) % (7 : Int32))), .val (.ref w_DETECT), .val (.int (3 : Int32))] [])) _
        refine XS.goto X8.here hx rfl (pc0 := 32) (pc' := 97) rfl (hb hby at_32) (by decide) (by decide) ?_
        show Steps p.tables e below (T8.setTop (mkF m 97 #[.val (.int p0), .val (.int ((p0 &&& (2147483647 : Int32)) % (7 : Int32))), .val (.ref w_DETECT), .val (.int (3 : Int32))] [])) _
        refine XS.aloadN X8.here hx rfl (hb hby at_97) rfl rfl ?_
        show Steps p.tables e below (T8.setTop (mkF m 98 #[.val (.int p0), .val (.int ((p0 &&& (2147483647 : Int32)) % (7 : Int32))), .val (.ref w_DETECT), .val (.int (3 : Int32))] [(.ref w_DETECT)])) _
        refine st9.trans ?_
        show Steps p.tables e below (T9.setTop (mkF m 101 #[.val (.int p0), .val (.int ((p0 &&& (2147483647 : Int32)) % (7 : Int32))), .val (.ref w_DETECT), .val (.int (3 : Int32))] [(.int (wc (2 : Int32) (0 : Int32)))])) _
        refine XS.iloadN X9.here hx rfl (hb hby at_101) rfl ?_
        exact k
      refine own_go (A' := (T9.setTop (mkF m 105 #[.val (.int p0), .val (.int ((p0 &&& (2147483647 : Int32)) % (7 : Int32))), .val (.ref w_DETECT), .val (.int (3 : Int32))] []))) (fun t k => XS.icmpNo X9.here hx rfl (hb hby at_102) rfl (teq (by decide)).2 k) ?_
      refine own_go (A' := (T9.setTop (mkF m 110 #[.val (.int p0), .val (.int ((p0 &&& (2147483647 : Int32)) % (7 : Int32))), .val (.ref w_DETECT), .val (.int (3 : Int32))] [(.int (1 : Int32))]))) (fun t k => ?_) ?_
      · show Steps p.tables e below (T9.setTop (mkF m 105 #[.val (.int p0), .val (.int ((p0 &&& (2147483647 : Int32)) % (7 : Int32))), .val (.ref w_DETECT), .val (.int (3 : Int32))] [])) _
        refine XS.iconst X9.here hx rfl (hb hby at_105) ?_
        show Steps p.tables e below (T9.setTop (mkF m 106 #[.val (.int p0), .val (.int ((p0 &&& (2147483647 : Int32)) % (7 : Int32))), .val (.ref w_DETECT), .val (.int (3 : Int32))] [(.int (1 : Int32))])) _
        refine XS.goto X9.here hx rfl (pc0 := 106) (pc' := 110) rfl (hb hby at_106) (by decide) (by decide) ?_
        exact k
      obtain ⟨fs, hr, hrun, hended, hW, hsame⟩ := X9.leave (v := some (.int (1 : Int32))) (fun h => by rw [Bd.returns] at h; cases h)
      refine ⟨_, _, ?_, hrun, hended, _, _, rfl, ?_, ⟨_, rfl⟩, hW, hsame.mono (by decide) (by decide)⟩
      · show Steps p.tables e below (T9.setTop (mkF m 110 #[.val (.int p0), .val (.int ((p0 &&& (2147483647 : Int32)) % (7 : Int32))), .val (.ref w_DETECT), .val (.int (3 : Int32))] [(.int (1 : Int32))])) _
        exact retN X9 hx (t := .boolean) Bd.returns (by simp) (hb hby at_110) hr
      · show Q0 Z p0 w_CRASH w_RESTART w_RESUME w_DELAY w_PAUSE w_START w_DETECT h0 n0 _ _ _
        exact ⟨rfl, N9⟩
    · -- hc7: no
      refine own_go (A' := (s₁.setTop (mkF m 35 #[.val (.int p0), .val (.int ((p0 &&& (2147483647 : Int32)) % (7 : Int32))), .unset, .unset] []))) (fun t k => XS.icmpYes X0.here hx rfl (pc0 := 23) (pc' := 35) rfl (hb hby at_23) rfl (feq hc7).2 (by decide) (by decide) k) ?_
      refine own_go (A' := (s₁.setTop (mkF m 37 #[.val (.int p0), .val (.int ((p0 &&& (2147483647 : Int32)) % (7 : Int32))), .unset, .unset] [(.int (2 : Int32)), (.int ((p0 &&& (2147483647 : Int32)) % (7 : Int32)))]))) (fun t k => ?_) ?_
      · show Steps p.tables e below (s₁.setTop (mkF m 35 #[.val (.int p0), .val (.int ((p0 &&& (2147483647 : Int32)) % (7 : Int32))), .unset, .unset] [])) _
        refine XS.iloadN X0.here hx rfl (hb hby at_35) rfl ?_
        show Steps p.tables e below (s₁.setTop (mkF m 36 #[.val (.int p0), .val (.int ((p0 &&& (2147483647 : Int32)) % (7 : Int32))), .unset, .unset] [(.int ((p0 &&& (2147483647 : Int32)) % (7 : Int32)))])) _
        refine XS.iconst X0.here hx rfl (hb hby at_36) ?_
        exact k
      by_cases hc10 : ((p0 &&& (2147483647 : Int32)) % (7 : Int32)) = (2 : Int32)
      · -- hc10: yes
        refine own_go (A' := (s₁.setTop (mkF m 40 #[.val (.int p0), .val (.int ((p0 &&& (2147483647 : Int32)) % (7 : Int32))), .unset, .unset] []))) (fun t k => XS.icmpNo X0.here hx rfl (hb hby at_37) rfl (teq hc10).2 k) ?_
        obtain ⟨T11, X11, e11, st11⟩ := getS2 X0 hx hZ hown (host := "") (Or.inl (hw _ (List.mem_of_getElem? (i := 21) rfl))) Via.refl e0 S_START (g := (mkF m 40 #[.val (.int p0), .val (.int ((p0 &&& (2147483647 : Int32)) % (7 : Int32))), .unset, .unset] [])) rfl (hb hby at_40)
        obtain ⟨cq12, kq12, q12a, q12b, q12c⟩ := isOf hZ e11 E_START
        obtain ⟨_, _, ⟨T12, L12, k12, n12⟩, -, X12, ⟨Lc12, hQ12, l12, y12, z12⟩, st12⟩ := X11.virtualBack hx (y := (⟨"com/example/ithaca/ithaca/scenario/ScenarioEvent$Action", "wordCount", "()I"⟩ : MethodName)) (z := (⟨"com/example/ithaca/ithaca/scenario/ScenarioEvent$Action", "wordCount", "()I"⟩ : MethodName)) hown (mvT hZ (hw _ (List.mem_of_getElem? (i := 4) rfl))) (mvT hZ (hw _ (List.mem_of_getElem? (i := 5) rfl))) (notFace_of_selects (args := #[]) (mvT hZ (hw _ (List.mem_of_getElem? (i := 7) rfl)))) (mvT hZ (hw _ (List.mem_of_getElem? (i := 7) rfl))) (mvT hZ (hw _ (List.mem_of_getElem? (i := 6) rfl))) (by decide) (backOf (W := 0) (rm1 l Z a0 hw [] w_START (1 : Int32) (0 : Int32) h0 n0 Z0 O_START_processCount O_START_hasTicks) hZ (hw _ (List.mem_of_getElem? (i := 8) rfl)) (hw _ (List.mem_of_getElem? (i := 2) rfl)) (by decide) (by decide)) q12a q12c (g := (mkF m 98 #[.val (.int p0), .val (.int ((p0 &&& (2147483647 : Int32)) % (7 : Int32))), .val (.ref w_START), .val (.int (2 : Int32))] [(.ref w_START)])) rfl (by rw [hml]; rfl) (Steps.refl _) (argsL := []) (rest := []) (lenOf pd_0 rfl) rfl (by show 2 * 0 + _ ≤ _; exact Nat.le_of_eq rfl) (hb hby at_98) (fun _ _ => ⟨rfl, e11, (by decide : 0 + 0 ≤ _), (by decide : 0 + 0 ≤ _)⟩)
        dsimp only [Pt.U, Pt.locs, Pt.cells, Pt.slots] at X12 l12 y12 z12 st12 hQ12
        subst l12 y12 z12
        obtain ⟨rfl, N12q, e12⟩ := hQ12
        have N12 := Fr.app N0 N12q
        refine own_go (A' := (T12.setTop (mkF m 102 #[.val (.int p0), .val (.int ((p0 &&& (2147483647 : Int32)) % (7 : Int32))), .val (.ref w_START), .val (.int (2 : Int32))] [(.int (2 : Int32)), (.int (wc (1 : Int32) (0 : Int32)))]))) (fun t k => ?_) ?_
        · show Steps p.tables e below (s₁.setTop (mkF m 40 #[.val (.int p0), .val (.int ((p0 &&& (2147483647 : Int32)) % (7 : Int32))), .unset, .unset] [])) _
          refine st11 _ ?_
          show Steps p.tables e below (T11.setTop (mkF m 43 #[.val (.int p0), .val (.int ((p0 &&& (2147483647 : Int32)) % (7 : Int32))), .unset, .unset] [(.ref w_START)])) _
          refine XS.astoreN X11.here hx rfl (hb hby at_43) rfl rfl (l' := #[.val (.int p0), .val (.int ((p0 &&& (2147483647 : Int32)) % (7 : Int32))), .val (.ref w_START), .unset]) rfl ?_
          show Steps p.tables e below (T11.setTop (mkF m 44 #[.val (.int p0), .val (.int ((p0 &&& (2147483647 : Int32)) % (7 : Int32))), .val (.ref w_START), .unset] [])) _
          refine XS.iconst X11.here hx rfl (hb hby at_44) ?_
          show Steps p.tables e below (T11.setTop (mkF m 45 #[.val (.int p0), .val (.int ((p0 &&& (2147483647 : Int32)) % (7 : Int32))), .val (.ref w_START), .unset] [(.int (2 : Int32))])) _
          refine XS.istoreN X11.here hx rfl (hb hby at_45) rfl (l' := #[.val (.int p0), .val (.int ((p0 &&& (2147483647 : Int32)) % (7 : Int32))), .val (.ref w_START), .val (.int (2 : Int32))]) rfl ?_
          show Steps p.tables e below (T11.setTop (mkF m 46 #[.val (.int p0), .val (.int ((p0 &&& (2147483647 : Int32)) % (7 : Int32))), .val (.ref w_START), .val (.int (2 : Int32))] [])) _
          refine XS.goto X11.here hx rfl (pc0 := 46) (pc' := 97) rfl (hb hby at_46) (by decide) (by decide) ?_
          show Steps p.tables e below (T11.setTop (mkF m 97 #[.val (.int p0), .val (.int ((p0 &&& (2147483647 : Int32)) % (7 : Int32))), .val (.ref w_START), .val (.int (2 : Int32))] [])) _
          refine XS.aloadN X11.here hx rfl (hb hby at_97) rfl rfl ?_
          show Steps p.tables e below (T11.setTop (mkF m 98 #[.val (.int p0), .val (.int ((p0 &&& (2147483647 : Int32)) % (7 : Int32))), .val (.ref w_START), .val (.int (2 : Int32))] [(.ref w_START)])) _
          refine st12.trans ?_
          show Steps p.tables e below (T12.setTop (mkF m 101 #[.val (.int p0), .val (.int ((p0 &&& (2147483647 : Int32)) % (7 : Int32))), .val (.ref w_START), .val (.int (2 : Int32))] [(.int (wc (1 : Int32) (0 : Int32)))])) _
          refine XS.iloadN X12.here hx rfl (hb hby at_101) rfl ?_
          exact k
        refine own_go (A' := (T12.setTop (mkF m 105 #[.val (.int p0), .val (.int ((p0 &&& (2147483647 : Int32)) % (7 : Int32))), .val (.ref w_START), .val (.int (2 : Int32))] []))) (fun t k => XS.icmpNo X12.here hx rfl (hb hby at_102) rfl (teq (by decide)).2 k) ?_
        refine own_go (A' := (T12.setTop (mkF m 110 #[.val (.int p0), .val (.int ((p0 &&& (2147483647 : Int32)) % (7 : Int32))), .val (.ref w_START), .val (.int (2 : Int32))] [(.int (1 : Int32))]))) (fun t k => ?_) ?_
        · show Steps p.tables e below (T12.setTop (mkF m 105 #[.val (.int p0), .val (.int ((p0 &&& (2147483647 : Int32)) % (7 : Int32))), .val (.ref w_START), .val (.int (2 : Int32))] [])) _
          refine XS.iconst X12.here hx rfl (hb hby at_105) ?_
          show Steps p.tables e below (T12.setTop (mkF m 106 #[.val (.int p0), .val (.int ((p0 &&& (2147483647 : Int32)) % (7 : Int32))), .val (.ref w_START), .val (.int (2 : Int32))] [(.int (1 : Int32))])) _
          refine XS.goto X12.here hx rfl (pc0 := 106) (pc' := 110) rfl (hb hby at_106) (by decide) (by decide) ?_
          exact k
        obtain ⟨fs, hr, hrun, hended, hW, hsame⟩ := X12.leave (v := some (.int (1 : Int32))) (fun h => by rw [Bd.returns] at h; cases h)
        refine ⟨_, _, ?_, hrun, hended, _, _, rfl, ?_, ⟨_, rfl⟩, hW, hsame.mono (by decide) (by decide)⟩
        · show Steps p.tables e below (T12.setTop (mkF m 110 #[.val (.int p0), .val (.int ((p0 &&& (2147483647 : Int32)) % (7 : Int32))), .val (.ref w_START), .val (.int (2 : Int32))] [(.int (1 : Int32))])) _
          exact retN X12 hx (t := .boolean) Bd.returns (by simp) (hb hby at_110) hr
        · show Q0 Z p0 w_CRASH w_RESTART w_RESUME w_DELAY w_PAUSE w_START w_DETECT h0 n0 _ _ _
          exact ⟨rfl, N12⟩
      · -- hc10: no
        refine own_go (A' := (s₁.setTop (mkF m 49 #[.val (.int p0), .val (.int ((p0 &&& (2147483647 : Int32)) % (7 : Int32))), .unset, .unset] []))) (fun t k => XS.icmpYes X0.here hx rfl (pc0 := 37) (pc' := 49) rfl (hb hby at_37) rfl (feq hc10).2 (by decide) (by decide) k) ?_
        refine own_go (A' := (s₁.setTop (mkF m 51 #[.val (.int p0), .val (.int ((p0 &&& (2147483647 : Int32)) % (7 : Int32))), .unset, .unset] [(.int (3 : Int32)), (.int ((p0 &&& (2147483647 : Int32)) % (7 : Int32)))]))) (fun t k => ?_) ?_
        · show Steps p.tables e below (s₁.setTop (mkF m 49 #[.val (.int p0), .val (.int ((p0 &&& (2147483647 : Int32)) % (7 : Int32))), .unset, .unset] [])) _
          refine XS.iloadN X0.here hx rfl (hb hby at_49) rfl ?_
          show Steps p.tables e below (s₁.setTop (mkF m 50 #[.val (.int p0), .val (.int ((p0 &&& (2147483647 : Int32)) % (7 : Int32))), .unset, .unset] [(.int ((p0 &&& (2147483647 : Int32)) % (7 : Int32)))])) _
          refine XS.iconst X0.here hx rfl (hb hby at_50) ?_
          exact k
        by_cases hc13 : ((p0 &&& (2147483647 : Int32)) % (7 : Int32)) = (3 : Int32)
        · -- hc13: yes
          refine own_go (A' := (s₁.setTop (mkF m 54 #[.val (.int p0), .val (.int ((p0 &&& (2147483647 : Int32)) % (7 : Int32))), .unset, .unset] []))) (fun t k => XS.icmpNo X0.here hx rfl (hb hby at_51) rfl (teq hc13).2 k) ?_
          obtain ⟨T14, X14, e14, st14⟩ := getS2 X0 hx hZ hown (host := "") (Or.inl (hw _ (List.mem_of_getElem? (i := 13) rfl))) Via.refl e0 S_RESTART (g := (mkF m 54 #[.val (.int p0), .val (.int ((p0 &&& (2147483647 : Int32)) % (7 : Int32))), .unset, .unset] [])) rfl (hb hby at_54)
          obtain ⟨cq15, kq15, q15a, q15b, q15c⟩ := isOf hZ e14 E_RESTART
          obtain ⟨_, _, ⟨T15, L15, k15, n15⟩, -, X15, ⟨Lc15, hQ15, l15, y15, z15⟩, st15⟩ := X14.virtualBack hx (y := (⟨"com/example/ithaca/ithaca/scenario/ScenarioEvent$Action", "wordCount", "()I"⟩ : MethodName)) (z := (⟨"com/example/ithaca/ithaca/scenario/ScenarioEvent$Action", "wordCount", "()I"⟩ : MethodName)) hown (mvT hZ (hw _ (List.mem_of_getElem? (i := 4) rfl))) (mvT hZ (hw _ (List.mem_of_getElem? (i := 5) rfl))) (notFace_of_selects (args := #[]) (mvT hZ (hw _ (List.mem_of_getElem? (i := 7) rfl)))) (mvT hZ (hw _ (List.mem_of_getElem? (i := 7) rfl))) (mvT hZ (hw _ (List.mem_of_getElem? (i := 6) rfl))) (by decide) (backOf (W := 0) (rm1 l Z a0 hw [] w_RESTART (1 : Int32) (0 : Int32) h0 n0 Z0 O_RESTART_processCount O_RESTART_hasTicks) hZ (hw _ (List.mem_of_getElem? (i := 8) rfl)) (hw _ (List.mem_of_getElem? (i := 2) rfl)) (by decide) (by decide)) q15a q15c (g := (mkF m 98 #[.val (.int p0), .val (.int ((p0 &&& (2147483647 : Int32)) % (7 : Int32))), .val (.ref w_RESTART), .val (.int (2 : Int32))] [(.ref w_RESTART)])) rfl (by rw [hml]; rfl) (Steps.refl _) (argsL := []) (rest := []) (lenOf pd_0 rfl) rfl (by show 2 * 0 + _ ≤ _; exact Nat.le_of_eq rfl) (hb hby at_98) (fun _ _ => ⟨rfl, e14, (by decide : 0 + 0 ≤ _), (by decide : 0 + 0 ≤ _)⟩)
          dsimp only [Pt.U, Pt.locs, Pt.cells, Pt.slots] at X15 l15 y15 z15 st15 hQ15
          subst l15 y15 z15
          obtain ⟨rfl, N15q, e15⟩ := hQ15
          have N15 := Fr.app N0 N15q
          refine own_go (A' := (T15.setTop (mkF m 102 #[.val (.int p0), .val (.int ((p0 &&& (2147483647 : Int32)) % (7 : Int32))), .val (.ref w_RESTART), .val (.int (2 : Int32))] [(.int (2 : Int32)), (.int (wc (1 : Int32) (0 : Int32)))]))) (fun t k => ?_) ?_
          · show Steps p.tables e below (s₁.setTop (mkF m 54 #[.val (.int p0), .val (.int ((p0 &&& (2147483647 : Int32)) % (7 : Int32))), .unset, .unset] [])) _
            refine st14 _ ?_
            show Steps p.tables e below (T14.setTop (mkF m 57 #[.val (.int p0), .val (.int ((p0 &&& (2147483647 : Int32)) % (7 : Int32))), .unset, .unset] [(.ref w_RESTART)])) _
            refine XS.astoreN X14.here hx rfl (hb hby at_57) rfl rfl (l' := #[.val (.int p0), .val (.int ((p0 &&& (2147483647 : Int32)) % (7 : Int32))), .val (.ref w_RESTART), .unset]) rfl ?_
            show Steps p.tables e below (T14.setTop (mkF m 58 #[.val (.int p0), .val (.int ((p0 &&& (2147483647 : Int32)) % (7 : Int32))), .val (.ref w_RESTART), .unset] [])) _
            refine XS.iconst X14.here hx rfl (hb hby at_58) ?_
            show Steps p.tables e below (T14.setTop (mkF m 59 #[.val (.int p0), .val (.int ((p0 &&& (2147483647 : Int32)) % (7 : Int32))), .val (.ref w_RESTART), .unset] [(.int (2 : Int32))])) _
            refine XS.istoreN X14.here hx rfl (hb hby at_59) rfl (l' := #[.val (.int p0), .val (.int ((p0 &&& (2147483647 : Int32)) % (7 : Int32))), .val (.ref w_RESTART), .val (.int (2 : Int32))]) rfl ?_
            show Steps p.tables e below (T14.setTop (mkF m 60 #[.val (.int p0), .val (.int ((p0 &&& (2147483647 : Int32)) % (7 : Int32))), .val (.ref w_RESTART), .val (.int (2 : Int32))] [])) _
            refine XS.goto X14.here hx rfl (pc0 := 60) (pc' := 97) rfl (hb hby at_60) (by decide) (by decide) ?_
            show Steps p.tables e below (T14.setTop (mkF m 97 #[.val (.int p0), .val (.int ((p0 &&& (2147483647 : Int32)) % (7 : Int32))), .val (.ref w_RESTART), .val (.int (2 : Int32))] [])) _
            refine XS.aloadN X14.here hx rfl (hb hby at_97) rfl rfl ?_
            show Steps p.tables e below (T14.setTop (mkF m 98 #[.val (.int p0), .val (.int ((p0 &&& (2147483647 : Int32)) % (7 : Int32))), .val (.ref w_RESTART), .val (.int (2 : Int32))] [(.ref w_RESTART)])) _
            refine st15.trans ?_
            show Steps p.tables e below (T15.setTop (mkF m 101 #[.val (.int p0), .val (.int ((p0 &&& (2147483647 : Int32)) % (7 : Int32))), .val (.ref w_RESTART), .val (.int (2 : Int32))] [(.int (wc (1 : Int32) (0 : Int32)))])) _
            refine XS.iloadN X15.here hx rfl (hb hby at_101) rfl ?_
            exact k
          refine own_go (A' := (T15.setTop (mkF m 105 #[.val (.int p0), .val (.int ((p0 &&& (2147483647 : Int32)) % (7 : Int32))), .val (.ref w_RESTART), .val (.int (2 : Int32))] []))) (fun t k => XS.icmpNo X15.here hx rfl (hb hby at_102) rfl (teq (by decide)).2 k) ?_
          refine own_go (A' := (T15.setTop (mkF m 110 #[.val (.int p0), .val (.int ((p0 &&& (2147483647 : Int32)) % (7 : Int32))), .val (.ref w_RESTART), .val (.int (2 : Int32))] [(.int (1 : Int32))]))) (fun t k => ?_) ?_
          · show Steps p.tables e below (T15.setTop (mkF m 105 #[.val (.int p0), .val (.int ((p0 &&& (2147483647 : Int32)) % (7 : Int32))), .val (.ref w_RESTART), .val (.int (2 : Int32))] [])) _
            refine XS.iconst X15.here hx rfl (hb hby at_105) ?_
            show Steps p.tables e below (T15.setTop (mkF m 106 #[.val (.int p0), .val (.int ((p0 &&& (2147483647 : Int32)) % (7 : Int32))), .val (.ref w_RESTART), .val (.int (2 : Int32))] [(.int (1 : Int32))])) _
            refine XS.goto X15.here hx rfl (pc0 := 106) (pc' := 110) rfl (hb hby at_106) (by decide) (by decide) ?_
            exact k
          obtain ⟨fs, hr, hrun, hended, hW, hsame⟩ := X15.leave (v := some (.int (1 : Int32))) (fun h => by rw [Bd.returns] at h; cases h)
          refine ⟨_, _, ?_, hrun, hended, _, _, rfl, ?_, ⟨_, rfl⟩, hW, hsame.mono (by decide) (by decide)⟩
          · show Steps p.tables e below (T15.setTop (mkF m 110 #[.val (.int p0), .val (.int ((p0 &&& (2147483647 : Int32)) % (7 : Int32))), .val (.ref w_RESTART), .val (.int (2 : Int32))] [(.int (1 : Int32))])) _
            exact retN X15 hx (t := .boolean) Bd.returns (by simp) (hb hby at_110) hr
          · show Q0 Z p0 w_CRASH w_RESTART w_RESUME w_DELAY w_PAUSE w_START w_DETECT h0 n0 _ _ _
            exact ⟨rfl, N15⟩
        · -- hc13: no
          refine own_go (A' := (s₁.setTop (mkF m 63 #[.val (.int p0), .val (.int ((p0 &&& (2147483647 : Int32)) % (7 : Int32))), .unset, .unset] []))) (fun t k => XS.icmpYes X0.here hx rfl (pc0 := 51) (pc' := 63) rfl (hb hby at_51) rfl (feq hc13).2 (by decide) (by decide) k) ?_
          refine own_go (A' := (s₁.setTop (mkF m 65 #[.val (.int p0), .val (.int ((p0 &&& (2147483647 : Int32)) % (7 : Int32))), .unset, .unset] [(.int (4 : Int32)), (.int ((p0 &&& (2147483647 : Int32)) % (7 : Int32)))]))) (fun t k => ?_) ?_
          · show Steps p.tables e below (s₁.setTop (mkF m 63 #[.val (.int p0), .val (.int ((p0 &&& (2147483647 : Int32)) % (7 : Int32))), .unset, .unset] [])) _
            refine XS.iloadN X0.here hx rfl (hb hby at_63) rfl ?_
            show Steps p.tables e below (s₁.setTop (mkF m 64 #[.val (.int p0), .val (.int ((p0 &&& (2147483647 : Int32)) % (7 : Int32))), .unset, .unset] [(.int ((p0 &&& (2147483647 : Int32)) % (7 : Int32)))])) _
            refine XS.iconst X0.here hx rfl (hb hby at_64) ?_
            exact k
          by_cases hc16 : ((p0 &&& (2147483647 : Int32)) % (7 : Int32)) = (4 : Int32)
          · -- hc16: yes
            refine own_go (A' := (s₁.setTop (mkF m 68 #[.val (.int p0), .val (.int ((p0 &&& (2147483647 : Int32)) % (7 : Int32))), .unset, .unset] []))) (fun t k => XS.icmpNo X0.here hx rfl (hb hby at_65) rfl (teq hc16).2 k) ?_
            obtain ⟨T17, X17, e17, st17⟩ := getS2 X0 hx hZ hown (host := "") (Or.inl (hw _ (List.mem_of_getElem? (i := 19) rfl))) Via.refl e0 S_PAUSE (g := (mkF m 68 #[.val (.int p0), .val (.int ((p0 &&& (2147483647 : Int32)) % (7 : Int32))), .unset, .unset] [])) rfl (hb hby at_68)
            obtain ⟨cq18, kq18, q18a, q18b, q18c⟩ := isOf hZ e17 E_PAUSE
            obtain ⟨_, _, ⟨T18, L18, k18, n18⟩, -, X18, ⟨Lc18, hQ18, l18, y18, z18⟩, st18⟩ := X17.virtualBack hx (y := (⟨"com/example/ithaca/ithaca/scenario/ScenarioEvent$Action", "wordCount", "()I"⟩ : MethodName)) (z := (⟨"com/example/ithaca/ithaca/scenario/ScenarioEvent$Action", "wordCount", "()I"⟩ : MethodName)) hown (mvT hZ (hw _ (List.mem_of_getElem? (i := 4) rfl))) (mvT hZ (hw _ (List.mem_of_getElem? (i := 5) rfl))) (notFace_of_selects (args := #[]) (mvT hZ (hw _ (List.mem_of_getElem? (i := 7) rfl)))) (mvT hZ (hw _ (List.mem_of_getElem? (i := 7) rfl))) (mvT hZ (hw _ (List.mem_of_getElem? (i := 6) rfl))) (by decide) (backOf (W := 0) (rm1 l Z a0 hw [] w_PAUSE (1 : Int32) (0 : Int32) h0 n0 Z0 O_PAUSE_processCount O_PAUSE_hasTicks) hZ (hw _ (List.mem_of_getElem? (i := 8) rfl)) (hw _ (List.mem_of_getElem? (i := 2) rfl)) (by decide) (by decide)) q18a q18c (g := (mkF m 98 #[.val (.int p0), .val (.int ((p0 &&& (2147483647 : Int32)) % (7 : Int32))), .val (.ref w_PAUSE), .val (.int (2 : Int32))] [(.ref w_PAUSE)])) rfl (by rw [hml]; rfl) (Steps.refl _) (argsL := []) (rest := []) (lenOf pd_0 rfl) rfl (by show 2 * 0 + _ ≤ _; exact Nat.le_of_eq rfl) (hb hby at_98) (fun _ _ => ⟨rfl, e17, (by decide : 0 + 0 ≤ _), (by decide : 0 + 0 ≤ _)⟩)
            dsimp only [Pt.U, Pt.locs, Pt.cells, Pt.slots] at X18 l18 y18 z18 st18 hQ18
            subst l18 y18 z18
            obtain ⟨rfl, N18q, e18⟩ := hQ18
            have N18 := Fr.app N0 N18q
            refine own_go (A' := (T18.setTop (mkF m 102 #[.val (.int p0), .val (.int ((p0 &&& (2147483647 : Int32)) % (7 : Int32))), .val (.ref w_PAUSE), .val (.int (2 : Int32))] [(.int (2 : Int32)), (.int (wc (1 : Int32) (0 : Int32)))]))) (fun t k => ?_) ?_
            · show Steps p.tables e below (s₁.setTop (mkF m 68 #[.val (.int p0), .val (.int ((p0 &&& (2147483647 : Int32)) % (7 : Int32))), .unset, .unset] [])) _
              refine st17 _ ?_
              show Steps p.tables e below (T17.setTop (mkF m 71 #[.val (.int p0), .val (.int ((p0 &&& (2147483647 : Int32)) % (7 : Int32))), .unset, .unset] [(.ref w_PAUSE)])) _
              refine XS.astoreN X17.here hx rfl (hb hby at_71) rfl rfl (l' := #[.val (.int p0), .val (.int ((p0 &&& (2147483647 : Int32)) % (7 : Int32))), .val (.ref w_PAUSE), .unset]) rfl ?_
              show Steps p.tables e below (T17.setTop (mkF m 72 #[.val (.int p0), .val (.int ((p0 &&& (2147483647 : Int32)) % (7 : Int32))), .val (.ref w_PAUSE), .unset] [])) _
              refine XS.iconst X17.here hx rfl (hb hby at_72) ?_
              show Steps p.tables e below (T17.setTop (mkF m 73 #[.val (.int p0), .val (.int ((p0 &&& (2147483647 : Int32)) % (7 : Int32))), .val (.ref w_PAUSE), .unset] [(.int (2 : Int32))])) _
              refine XS.istoreN X17.here hx rfl (hb hby at_73) rfl (l' := #[.val (.int p0), .val (.int ((p0 &&& (2147483647 : Int32)) % (7 : Int32))), .val (.ref w_PAUSE), .val (.int (2 : Int32))]) rfl ?_
              show Steps p.tables e below (T17.setTop (mkF m 74 #[.val (.int p0), .val (.int ((p0 &&& (2147483647 : Int32)) % (7 : Int32))), .val (.ref w_PAUSE), .val (.int (2 : Int32))] [])) _
              refine XS.goto X17.here hx rfl (pc0 := 74) (pc' := 97) rfl (hb hby at_74) (by decide) (by decide) ?_
              show Steps p.tables e below (T17.setTop (mkF m 97 #[.val (.int p0), .val (.int ((p0 &&& (2147483647 : Int32)) % (7 : Int32))), .val (.ref w_PAUSE), .val (.int (2 : Int32))] [])) _
              refine XS.aloadN X17.here hx rfl (hb hby at_97) rfl rfl ?_
              show Steps p.tables e below (T17.setTop (mkF m 98 #[.val (.int p0), .val (.int ((p0 &&& (2147483647 : Int32)) % (7 : Int32))), .val (.ref w_PAUSE), .val (.int (2 : Int32))] [(.ref w_PAUSE)])) _
              refine st18.trans ?_
              show Steps p.tables e below (T18.setTop (mkF m 101 #[.val (.int p0), .val (.int ((p0 &&& (2147483647 : Int32)) % (7 : Int32))), .val (.ref w_PAUSE), .val (.int (2 : Int32))] [(.int (wc (1 : Int32) (0 : Int32)))])) _
              refine XS.iloadN X18.here hx rfl (hb hby at_101) rfl ?_
              exact k
            refine own_go (A' := (T18.setTop (mkF m 105 #[.val (.int p0), .val (.int ((p0 &&& (2147483647 : Int32)) % (7 : Int32))), .val (.ref w_PAUSE), .val (.int (2 : Int32))] []))) (fun t k => XS.icmpNo X18.here hx rfl (hb hby at_102) rfl (teq (by decide)).2 k) ?_
            refine own_go (A' := (T18.setTop (mkF m 110 #[.val (.int p0), .val (.int ((p0 &&& (2147483647 : Int32)) % (7 : Int32))), .val (.ref w_PAUSE), .val (.int (2 : Int32))] [(.int (1 : Int32))]))) (fun t k => ?_) ?_
            · show Steps p.tables e below (T18.setTop (mkF m 105 #[.val (.int p0), .val (.int ((p0 &&& (2147483647 : Int32)) % (7 : Int32))), .val (.ref w_PAUSE), .val (.int (2 : Int32))] [])) _
              refine XS.iconst X18.here hx rfl (hb hby at_105) ?_
              show Steps p.tables e below (T18.setTop (mkF m 106 #[.val (.int p0), .val (.int ((p0 &&& (2147483647 : Int32)) % (7 : Int32))), .val (.ref w_PAUSE), .val (.int (2 : Int32))] [(.int (1 : Int32))])) _
              refine XS.goto X18.here hx rfl (pc0 := 106) (pc' := 110) rfl (hb hby at_106) (by decide) (by decide) ?_
              exact k
            obtain ⟨fs, hr, hrun, hended, hW, hsame⟩ := X18.leave (v := some (.int (1 : Int32))) (fun h => by rw [Bd.returns] at h; cases h)
            refine ⟨_, _, ?_, hrun, hended, _, _, rfl, ?_, ⟨_, rfl⟩, hW, hsame.mono (by decide) (by decide)⟩
            · show Steps p.tables e below (T18.setTop (mkF m 110 #[.val (.int p0), .val (.int ((p0 &&& (2147483647 : Int32)) % (7 : Int32))), .val (.ref w_PAUSE), .val (.int (2 : Int32))] [(.int (1 : Int32))])) _
              exact retN X18 hx (t := .boolean) Bd.returns (by simp) (hb hby at_110) hr
            · show Q0 Z p0 w_CRASH w_RESTART w_RESUME w_DELAY w_PAUSE w_START w_DETECT h0 n0 _ _ _
              exact ⟨rfl, N18⟩
          · -- hc16: no
            refine own_go (A' := (s₁.setTop (mkF m 77 #[.val (.int p0), .val (.int ((p0 &&& (2147483647 : Int32)) % (7 : Int32))), .unset, .unset] []))) (fun t k => XS.icmpYes X0.here hx rfl (pc0 := 65) (pc' := 77) rfl (hb hby at_65) rfl (feq hc16).2 (by decide) (by decide) k) ?_
            refine own_go (A' := (s₁.setTop (mkF m 79 #[.val (.int p0), .val (.int ((p0 &&& (2147483647 : Int32)) % (7 : Int32))), .unset, .unset] [(.int (5 : Int32)), (.int ((p0 &&& (2147483647 : Int32)) % (7 : Int32)))]))) (fun t k => ?_) ?_
            · show Steps p.tables e below (s₁.setTop (mkF m 77 #[.val (.int p0), .val (.int ((p0 &&& (2147483647 : Int32)) % (7 : Int32))), .unset, .unset] [])) _
              refine XS.iloadN X0.here hx rfl (hb hby at_77) rfl ?_
              show Steps p.tables e below (s₁.setTop (mkF m 78 #[.val (.int p0), .val (.int ((p0 &&& (2147483647 : Int32)) % (7 : Int32))), .unset, .unset] [(.int ((p0 &&& (2147483647 : Int32)) % (7 : Int32)))])) _
              refine XS.iconst X0.here hx rfl (hb hby at_78) ?_
              exact k
            by_cases hc19 : ((p0 &&& (2147483647 : Int32)) % (7 : Int32)) = (5 : Int32)
            · -- hc19: yes
              refine own_go (A' := (s₁.setTop (mkF m 82 #[.val (.int p0), .val (.int ((p0 &&& (2147483647 : Int32)) % (7 : Int32))), .unset, .unset] []))) (fun t k => XS.icmpNo X0.here hx rfl (hb hby at_79) rfl (teq hc19).2 k) ?_
              obtain ⟨T20, X20, e20, st20⟩ := getS2 X0 hx hZ hown (host := "") (Or.inl (hw _ (List.mem_of_getElem? (i := 15) rfl))) Via.refl e0 S_RESUME (g := (mkF m 82 #[.val (.int p0), .val (.int ((p0 &&& (2147483647 : Int32)) % (7 : Int32))), .unset, .unset] [])) rfl (hb hby at_82)
              obtain ⟨cq21, kq21, q21a, q21b, q21c⟩ := isOf hZ e20 E_RESUME
              obtain ⟨_, _, ⟨T21, L21, k21, n21⟩, -, X21, ⟨Lc21, hQ21, l21, y21, z21⟩, st21⟩ := X20.virtualBack hx (y := (⟨"com/example/ithaca/ithaca/scenario/ScenarioEvent$Action", "wordCount", "()I"⟩ : MethodName)) (z := (⟨"com/example/ithaca/ithaca/scenario/ScenarioEvent$Action", "wordCount", "()I"⟩ : MethodName)) hown (mvT hZ (hw _ (List.mem_of_getElem? (i := 4) rfl))) (mvT hZ (hw _ (List.mem_of_getElem? (i := 5) rfl))) (notFace_of_selects (args := #[]) (mvT hZ (hw _ (List.mem_of_getElem? (i := 7) rfl)))) (mvT hZ (hw _ (List.mem_of_getElem? (i := 7) rfl))) (mvT hZ (hw _ (List.mem_of_getElem? (i := 6) rfl))) (by decide) (backOf (W := 0) (rm1 l Z a0 hw [] w_RESUME (1 : Int32) (0 : Int32) h0 n0 Z0 O_RESUME_processCount O_RESUME_hasTicks) hZ (hw _ (List.mem_of_getElem? (i := 8) rfl)) (hw _ (List.mem_of_getElem? (i := 2) rfl)) (by decide) (by decide)) q21a q21c (g := (mkF m 98 #[.val (.int p0), .val (.int ((p0 &&& (2147483647 : Int32)) % (7 : Int32))), .val (.ref w_RESUME), .val (.int (2 : Int32))] [(.ref w_RESUME)])) rfl (by rw [hml]; rfl) (Steps.refl _) (argsL := []) (rest := []) (lenOf pd_0 rfl) rfl (by show 2 * 0 + _ ≤ _; exact Nat.le_of_eq rfl) (hb hby at_98) (fun _ _ => ⟨rfl, e20, (by decide : 0 + 0 ≤ _), (by decide : 0 + 0 ≤ _)⟩)
              dsimp only [Pt.U, Pt.locs, Pt.cells, Pt.slots] at X21 l21 y21 z21 st21 hQ21
              subst l21 y21 z21
              obtain ⟨rfl, N21q, e21⟩ := hQ21
              have N21 := Fr.app N0 N21q
              refine own_go (A' := (T21.setTop (mkF m 102 #[.val (.int p0), .val (.int ((p0 &&& (2147483647 : Int32)) % (7 : Int32))), .val (.ref w_RESUME), .val (.int (2 : Int32))] [(.int (2 : Int32)), (.int (wc (1 : Int32) (0 : Int32)))]))) (fun t k => ?_) ?_
              · show Steps p.tables e below (s₁.setTop (mkF m 82 #[.val (.int p0), .val (.int ((p0 &&& (2147483647 : Int32)) % (7 : Int32))), .unset, .unset] [])) _
                refine st20 _ ?_
                show Steps p.tables e below (T20.setTop (mkF m 85 #[.val (.int p0), .val (.int ((p0 &&& (2147483647 : Int32)) % (7 : Int32))), .unset, .unset] [(.ref w_RESUME)])) _
                refine XS.astoreN X20.here hx rfl (hb hby at_85) rfl rfl (l' := #[.val (.int p0), .val (.int ((p0 &&& (2147483647 : Int32)) % (7 : Int32))), .val (.ref w_RESUME), .unset]) rfl ?_
                show Steps p.tables e below (T20.setTop (mkF m 86 #[.val (.int p0), .val (.int ((p0 &&& (2147483647 : Int32)) % (7 : Int32))), .val (.ref w_RESUME), .unset] [])) _
                refine XS.iconst X20.here hx rfl (hb hby at_86) ?_
                show Steps p.tables e below (T20.setTop (mkF m 87 #[.val (.int p0), .val (.int ((p0 &&& (2147483647 : Int32)) % (7 : Int32))), .val (.ref w_RESUME), .unset] [(.int (2 : Int32))])) _
                refine XS.istoreN X20.here hx rfl (hb hby at_87) rfl (l' := #[.val (.int p0), .val (.int ((p0 &&& (2147483647 : Int32)) % (7 : Int32))), .val (.ref w_RESUME), .val (.int (2 : Int32))]) rfl ?_
                show Steps p.tables e below (T20.setTop (mkF m 88 #[.val (.int p0), .val (.int ((p0 &&& (2147483647 : Int32)) % (7 : Int32))), .val (.ref w_RESUME), .val (.int (2 : Int32))] [])) _
                refine XS.goto X20.here hx rfl (pc0 := 88) (pc' := 97) rfl (hb hby at_88) (by decide) (by decide) ?_
                show Steps p.tables e below (T20.setTop (mkF m 97 #[.val (.int p0), .val (.int ((p0 &&& (2147483647 : Int32)) % (7 : Int32))), .val (.ref w_RESUME), .val (.int (2 : Int32))] [])) _
                refine XS.aloadN X20.here hx rfl (hb hby at_97) rfl rfl ?_
                show Steps p.tables e below (T20.setTop (mkF m 98 #[.val (.int p0), .val (.int ((p0 &&& (2147483647 : Int32)) % (7 : Int32))), .val (.ref w_RESUME), .val (.int (2 : Int32))] [(.ref w_RESUME)])) _
                refine st21.trans ?_
                show Steps p.tables e below (T21.setTop (mkF m 101 #[.val (.int p0), .val (.int ((p0 &&& (2147483647 : Int32)) % (7 : Int32))), .val (.ref w_RESUME), .val (.int (2 : Int32))] [(.int (wc (1 : Int32) (0 : Int32)))])) _
                refine XS.iloadN X21.here hx rfl (hb hby at_101) rfl ?_
                exact k
              refine own_go (A' := (T21.setTop (mkF m 105 #[.val (.int p0), .val (.int ((p0 &&& (2147483647 : Int32)) % (7 : Int32))), .val (.ref w_RESUME), .val (.int (2 : Int32))] []))) (fun t k => XS.icmpNo X21.here hx rfl (hb hby at_102) rfl (teq (by decide)).2 k) ?_
              refine own_go (A' := (T21.setTop (mkF m 110 #[.val (.int p0), .val (.int ((p0 &&& (2147483647 : Int32)) % (7 : Int32))), .val (.ref w_RESUME), .val (.int (2 : Int32))] [(.int (1 : Int32))]))) (fun t k => ?_) ?_
              · show Steps p.tables e below (T21.setTop (mkF m 105 #[.val (.int p0), .val (.int ((p0 &&& (2147483647 : Int32)) % (7 : Int32))), .val (.ref w_RESUME), .val (.int (2 : Int32))] [])) _
                refine XS.iconst X21.here hx rfl (hb hby at_105) ?_
                show Steps p.tables e below (T21.setTop (mkF m 106 #[.val (.int p0), .val (.int ((p0 &&& (2147483647 : Int32)) % (7 : Int32))), .val (.ref w_RESUME), .val (.int (2 : Int32))] [(.int (1 : Int32))])) _
                refine XS.goto X21.here hx rfl (pc0 := 106) (pc' := 110) rfl (hb hby at_106) (by decide) (by decide) ?_
                exact k
              obtain ⟨fs, hr, hrun, hended, hW, hsame⟩ := X21.leave (v := some (.int (1 : Int32))) (fun h => by rw [Bd.returns] at h; cases h)
              refine ⟨_, _, ?_, hrun, hended, _, _, rfl, ?_, ⟨_, rfl⟩, hW, hsame.mono (by decide) (by decide)⟩
              · show Steps p.tables e below (T21.setTop (mkF m 110 #[.val (.int p0), .val (.int ((p0 &&& (2147483647 : Int32)) % (7 : Int32))), .val (.ref w_RESUME), .val (.int (2 : Int32))] [(.int (1 : Int32))])) _
                exact retN X21 hx (t := .boolean) Bd.returns (by simp) (hb hby at_110) hr
              · show Q0 Z p0 w_CRASH w_RESTART w_RESUME w_DELAY w_PAUSE w_START w_DETECT h0 n0 _ _ _
                exact ⟨rfl, N21⟩
            · -- hc19: no
              refine own_go (A' := (s₁.setTop (mkF m 91 #[.val (.int p0), .val (.int ((p0 &&& (2147483647 : Int32)) % (7 : Int32))), .unset, .unset] []))) (fun t k => XS.icmpYes X0.here hx rfl (pc0 := 79) (pc' := 91) rfl (hb hby at_79) rfl (feq hc19).2 (by decide) (by decide) k) ?_
              obtain ⟨T22, X22, e22, st22⟩ := getS2 X0 hx hZ hown (host := "") (Or.inl (hw _ (List.mem_of_getElem? (i := 17) rfl))) Via.refl e0 S_DELAY (g := (mkF m 91 #[.val (.int p0), .val (.int ((p0 &&& (2147483647 : Int32)) % (7 : Int32))), .unset, .unset] [])) rfl (hb hby at_91)
              obtain ⟨cq23, kq23, q23a, q23b, q23c⟩ := isOf hZ e22 E_DELAY
              obtain ⟨_, _, ⟨T23, L23, k23, n23⟩, -, X23, ⟨Lc23, hQ23, l23, y23, z23⟩, st23⟩ := X22.virtualBack hx (y := (⟨"com/example/ithaca/ithaca/scenario/ScenarioEvent$Action", "wordCount", "()I"⟩ : MethodName)) (z := (⟨"com/example/ithaca/ithaca/scenario/ScenarioEvent$Action", "wordCount", "()I"⟩ : MethodName)) hown (mvT hZ (hw _ (List.mem_of_getElem? (i := 4) rfl))) (mvT hZ (hw _ (List.mem_of_getElem? (i := 5) rfl))) (notFace_of_selects (args := #[]) (mvT hZ (hw _ (List.mem_of_getElem? (i := 7) rfl)))) (mvT hZ (hw _ (List.mem_of_getElem? (i := 7) rfl))) (mvT hZ (hw _ (List.mem_of_getElem? (i := 6) rfl))) (by decide) (backOf (W := 0) (rm1 l Z a0 hw [] w_DELAY (2 : Int32) (1 : Int32) h0 n0 Z0 O_DELAY_processCount O_DELAY_hasTicks) hZ (hw _ (List.mem_of_getElem? (i := 8) rfl)) (hw _ (List.mem_of_getElem? (i := 2) rfl)) (by decide) (by decide)) q23a q23c (g := (mkF m 98 #[.val (.int p0), .val (.int ((p0 &&& (2147483647 : Int32)) % (7 : Int32))), .val (.ref w_DELAY), .val (.int (4 : Int32))] [(.ref w_DELAY)])) rfl (by rw [hml]; rfl) (Steps.refl _) (argsL := []) (rest := []) (lenOf pd_0 rfl) rfl (by show 2 * 0 + _ ≤ _; exact Nat.le_of_eq rfl) (hb hby at_98) (fun _ _ => ⟨rfl, e22, (by decide : 0 + 0 ≤ _), (by decide : 0 + 0 ≤ _)⟩)
              dsimp only [Pt.U, Pt.locs, Pt.cells, Pt.slots] at X23 l23 y23 z23 st23 hQ23
              subst l23 y23 z23
              obtain ⟨rfl, N23q, e23⟩ := hQ23
              have N23 := Fr.app N0 N23q
              refine own_go (A' := (T23.setTop (mkF m 102 #[.val (.int p0), .val (.int ((p0 &&& (2147483647 : Int32)) % (7 : Int32))), .val (.ref w_DELAY), .val (.int (4 : Int32))] [(.int (4 : Int32)), (.int (wc (2 : Int32) (1 : Int32)))]))) (fun t k => ?_) ?_
              · show Steps p.tables e below (s₁.setTop (mkF m 91 #[.val (.int p0), .val (.int ((p0 &&& (2147483647 : Int32)) % (7 : Int32))), .unset, .unset] [])) _
                refine st22 _ ?_
                show Steps p.tables e below (T22.setTop (mkF m 94 #[.val (.int p0), .val (.int ((p0 &&& (2147483647 : Int32)) % (7 : Int32))), .unset, .unset] [(.ref w_DELAY)])) _
                refine XS.astoreN X22.here hx rfl (hb hby at_94) rfl rfl (l' := #[.val (.int p0), .val (.int ((p0 &&& (2147483647 : Int32)) % (7 : Int32))), .val (.ref w_DELAY), .unset]) rfl ?_
                show Steps p.tables e below (T22.setTop (mkF m 95 #[.val (.int p0), .val (.int ((p0 &&& (2147483647 : Int32)) % (7 : Int32))), .val (.ref w_DELAY), .unset] [])) _
                refine XS.iconst X22.here hx rfl (hb hby at_95) ?_
                show Steps p.tables e below (T22.setTop (mkF m 96 #[.val (.int p0), .val (.int ((p0 &&& (2147483647 : Int32)) % (7 : Int32))), .val (.ref w_DELAY), .unset] [(.int (4 : Int32))])) _
                refine XS.istoreN X22.here hx rfl (hb hby at_96) rfl (l' := #[.val (.int p0), .val (.int ((p0 &&& (2147483647 : Int32)) % (7 : Int32))), .val (.ref w_DELAY), .val (.int (4 : Int32))]) rfl ?_
                show Steps p.tables e below (T22.setTop (mkF m 97 #[.val (.int p0), .val (.int ((p0 &&& (2147483647 : Int32)) % (7 : Int32))), .val (.ref w_DELAY), .val (.int (4 : Int32))] [])) _
                refine XS.aloadN X22.here hx rfl (hb hby at_97) rfl rfl ?_
                show Steps p.tables e below (T22.setTop (mkF m 98 #[.val (.int p0), .val (.int ((p0 &&& (2147483647 : Int32)) % (7 : Int32))), .val (.ref w_DELAY), .val (.int (4 : Int32))] [(.ref w_DELAY)])) _
                refine st23.trans ?_
                show Steps p.tables e below (T23.setTop (mkF m 101 #[.val (.int p0), .val (.int ((p0 &&& (2147483647 : Int32)) % (7 : Int32))), .val (.ref w_DELAY), .val (.int (4 : Int32))] [(.int (wc (2 : Int32) (1 : Int32)))])) _
                refine XS.iloadN X23.here hx rfl (hb hby at_101) rfl ?_
                exact k
              refine own_go (A' := (T23.setTop (mkF m 105 #[.val (.int p0), .val (.int ((p0 &&& (2147483647 : Int32)) % (7 : Int32))), .val (.ref w_DELAY), .val (.int (4 : Int32))] []))) (fun t k => XS.icmpNo X23.here hx rfl (hb hby at_102) rfl (teq (by decide)).2 k) ?_
              refine own_go (A' := (T23.setTop (mkF m 110 #[.val (.int p0), .val (.int ((p0 &&& (2147483647 : Int32)) % (7 : Int32))), .val (.ref w_DELAY), .val (.int (4 : Int32))] [(.int (1 : Int32))]))) (fun t k => ?_) ?_
              · show Steps p.tables e below (T23.setTop (mkF m 105 #[.val (.int p0), .val (.int ((p0 &&& (2147483647 : Int32)) % (7 : Int32))), .val (.ref w_DELAY), .val (.int (4 : Int32))] [])) _
                refine XS.iconst X23.here hx rfl (hb hby at_105) ?_
                show Steps p.tables e below (T23.setTop (mkF m 106 #[.val (.int p0), .val (.int ((p0 &&& (2147483647 : Int32)) % (7 : Int32))), .val (.ref w_DELAY), .val (.int (4 : Int32))] [(.int (1 : Int32))])) _
                refine XS.goto X23.here hx rfl (pc0 := 106) (pc' := 110) rfl (hb hby at_106) (by decide) (by decide) ?_
                exact k
              obtain ⟨fs, hr, hrun, hended, hW, hsame⟩ := X23.leave (v := some (.int (1 : Int32))) (fun h => by rw [Bd.returns] at h; cases h)
              refine ⟨_, _, ?_, hrun, hended, _, _, rfl, ?_, ⟨_, rfl⟩, hW, hsame.mono (by decide) (by decide)⟩
              · show Steps p.tables e below (T23.setTop (mkF m 110 #[.val (.int p0), .val (.int ((p0 &&& (2147483647 : Int32)) % (7 : Int32))), .val (.ref w_DELAY), .val (.int (4 : Int32))] [(.int (1 : Int32))])) _
                exact retN X23 hx (t := .boolean) Bd.returns (by simp) (hb hby at_110) hr
              · show Q0 Z p0 w_CRASH w_RESTART w_RESUME w_DELAY w_PAUSE w_START w_DETECT h0 n0 _ _ _
                exact ⟨rfl, N23⟩
theorem own_eqint {t : Term} {k : Int32} {args : Array Value} {first s : State} {o : Option Outcome} {idx : List Nat} (h : (Jvm.Cond.eq t (.int k)).value args first o s idx = some true) : t.eval args first o idx s = some (.int k) := by
  cases ht : t.eval args first o idx s with
  | none => simp [Cond.value, Term.eval, ht] at h
  | some x => cases x <;> simp [Cond.value, Term.eval, ht] at h; subst h; rfl
set_option maxRecDepth 65536 in
set_option maxHeartbeats 40000000 in
theorem comes_1 {Post : Tables → Env → Array Value → State → Outcome → State → Prop} (hpost : ∀ tb e args s v u, (limb_1_1.after args s (.returned v) u = true ∧ limb_1_2.after args s (.returned v) u = true ∧ True) → FrameEnd s (.returned v) u (Jvm.fieldLocs frame_1_writes args s ++ Jvm.arrayLocs frame_1_arrays args s ++ Jvm.staticLocs frame_1_statics s) 0 0 → Post tb e args s (.returned v) u) :
    ArmFor flags0 classFile x code maxLocals ret World_1 tables_1 room_1 Calls_1 rest_1 Pre_1 Post := by
  intro l hfl _ _ p e ha hc hk s m args below hf hA hF happ hP
  obtain ⟨hcalls, hrest, hpre⟩ := hP
  obtain ⟨-, -, -, hnamed, -, -, -, hat⟩ := (Spec.applies_iff hf).mp happ
  obtain ⟨hg, hn⟩ := and_e (Cond.before_iff.mp (show (Jvm.Cond.and given_1 narrow_1).before args s = true from hpre))
  have hv0 := (and_e hg).2
  obtain ⟨w0, rfl⟩ : ∃ w0 : Value, args = #[w0] := by
    have hs : args.size = 1 := by simpa [Cond.value, given_1] using (and_e hg).1
    obtain ⟨L⟩ := args
    match L, hs with
    | [w0], _ => exact ⟨w0, rfl⟩
  have hw := fun d (hd : d ∈ tables_1) => atoms_spec (ws := Jvm.Cond.code x code maxLocals ret :: tables_1) hat d (List.mem_cons_of_mem _ hd)
  have hfit : Fit s := fun {y c} hc i hi => by
    obtain ⟨ha, rfl⟩ := Array.getElem?_eq_some_iff.mp hc
    have q := List.all_eq_true.mp ((Array.all_eq_true_iff_forall_mem.mp hF) _ (Array.getElem_mem ha)) i (List.mem_range.mpr hi)
    simpa [Array.getElem?_eq_getElem hi] using q
  obtain ⟨i0, ei0⟩ := is_v hv0
  obtain rfl : w0 = (.int i0) := Option.some.inj ei0
  have hx_CRASH := (and_e hn).1
  obtain ⟨w_CRASH, ev_CRASH⟩ := exa_v hx_CRASH
  have S_CRASH : Sta s s.heap "com/example/ithaca/ithaca/scenario/ScenarioEvent$Action" "CRASH" "Lcom/example/ithaca/ithaca/scenario/ScenarioEvent$Action;" (.ref w_CRASH) := Sta.start ev_CRASH (Or.inr ⟨(hw _ (List.mem_of_getElem? (i := 2) rfl)), (hw _ (List.mem_of_getElem? (i := 3) rfl))⟩)
  have E_CRASH : Exa s s.heap w_CRASH "com/example/ithaca/ithaca/scenario/ScenarioEvent$Action" := Exa.start ev_CRASH hx_CRASH
  have O_CRASH_processCount : Fld s s.heap w_CRASH "com/example/ithaca/ithaca/scenario/ScenarioEvent$Action" "processCount" "I" (.int (1 : Int32)) := Fld.start ((fld_at ev_CRASH).symm.trans (own_eqint (and_e (and_e hn).2).1))
  have O_CRASH_hasTicks : Fld s s.heap w_CRASH "com/example/ithaca/ithaca/scenario/ScenarioEvent$Action" "hasTicks" "Z" (.int (0 : Int32)) := Fld.start ((fld_at ev_CRASH).symm.trans (own_eqint (and_e (and_e (and_e hn).2).2).1))
  have hx_RESTART := (and_e (and_e (and_e (and_e hn).2).2).2).1
  obtain ⟨w_RESTART, ev_RESTART⟩ := exa_v hx_RESTART
  have S_RESTART : Sta s s.heap "com/example/ithaca/ithaca/scenario/ScenarioEvent$Action" "RESTART" "Lcom/example/ithaca/ithaca/scenario/ScenarioEvent$Action;" (.ref w_RESTART) := Sta.start ev_RESTART (Or.inr ⟨(hw _ (List.mem_of_getElem? (i := 2) rfl)), (hw _ (List.mem_of_getElem? (i := 14) rfl))⟩)
  have E_RESTART : Exa s s.heap w_RESTART "com/example/ithaca/ithaca/scenario/ScenarioEvent$Action" := Exa.start ev_RESTART hx_RESTART
  have O_RESTART_processCount : Fld s s.heap w_RESTART "com/example/ithaca/ithaca/scenario/ScenarioEvent$Action" "processCount" "I" (.int (1 : Int32)) := Fld.start ((fld_at ev_RESTART).symm.trans (own_eqint (and_e (and_e (and_e (and_e (and_e hn).2).2).2).2).1))
  have O_RESTART_hasTicks : Fld s s.heap w_RESTART "com/example/ithaca/ithaca/scenario/ScenarioEvent$Action" "hasTicks" "Z" (.int (0 : Int32)) := Fld.start ((fld_at ev_RESTART).symm.trans (own_eqint (and_e (and_e (and_e (and_e (and_e (and_e hn).2).2).2).2).2).1))
  have hx_RESUME := (and_e (and_e (and_e (and_e (and_e (and_e (and_e hn).2).2).2).2).2).2).1
  obtain ⟨w_RESUME, ev_RESUME⟩ := exa_v hx_RESUME
  have S_RESUME : Sta s s.heap "com/example/ithaca/ithaca/scenario/ScenarioEvent$Action" "RESUME" "Lcom/example/ithaca/ithaca/scenario/ScenarioEvent$Action;" (.ref w_RESUME) := Sta.start ev_RESUME (Or.inr ⟨(hw _ (List.mem_of_getElem? (i := 2) rfl)), (hw _ (List.mem_of_getElem? (i := 16) rfl))⟩)
  have E_RESUME : Exa s s.heap w_RESUME "com/example/ithaca/ithaca/scenario/ScenarioEvent$Action" := Exa.start ev_RESUME hx_RESUME
  have O_RESUME_processCount : Fld s s.heap w_RESUME "com/example/ithaca/ithaca/scenario/ScenarioEvent$Action" "processCount" "I" (.int (1 : Int32)) := Fld.start ((fld_at ev_RESUME).symm.trans (own_eqint (and_e (and_e (and_e (and_e (and_e (and_e (and_e (and_e hn).2).2).2).2).2).2).2).1))
  have O_RESUME_hasTicks : Fld s s.heap w_RESUME "com/example/ithaca/ithaca/scenario/ScenarioEvent$Action" "hasTicks" "Z" (.int (0 : Int32)) := Fld.start ((fld_at ev_RESUME).symm.trans (own_eqint (and_e (and_e (and_e (and_e (and_e (and_e (and_e (and_e (and_e hn).2).2).2).2).2).2).2).2).1))
  have hx_DELAY := (and_e (and_e (and_e (and_e (and_e (and_e (and_e (and_e (and_e (and_e hn).2).2).2).2).2).2).2).2).2).1
  obtain ⟨w_DELAY, ev_DELAY⟩ := exa_v hx_DELAY
  have S_DELAY : Sta s s.heap "com/example/ithaca/ithaca/scenario/ScenarioEvent$Action" "DELAY" "Lcom/example/ithaca/ithaca/scenario/ScenarioEvent$Action;" (.ref w_DELAY) := Sta.start ev_DELAY (Or.inr ⟨(hw _ (List.mem_of_getElem? (i := 2) rfl)), (hw _ (List.mem_of_getElem? (i := 18) rfl))⟩)
  have E_DELAY : Exa s s.heap w_DELAY "com/example/ithaca/ithaca/scenario/ScenarioEvent$Action" := Exa.start ev_DELAY hx_DELAY
  have O_DELAY_processCount : Fld s s.heap w_DELAY "com/example/ithaca/ithaca/scenario/ScenarioEvent$Action" "processCount" "I" (.int (2 : Int32)) := Fld.start ((fld_at ev_DELAY).symm.trans (own_eqint (and_e (and_e (and_e (and_e (and_e (and_e (and_e (and_e (and_e (and_e (and_e hn).2).2).2).2).2).2).2).2).2).2).1))
  have O_DELAY_hasTicks : Fld s s.heap w_DELAY "com/example/ithaca/ithaca/scenario/ScenarioEvent$Action" "hasTicks" "Z" (.int (1 : Int32)) := Fld.start ((fld_at ev_DELAY).symm.trans (own_eqint (and_e (and_e (and_e (and_e (and_e (and_e (and_e (and_e (and_e (and_e (and_e (and_e hn).2).2).2).2).2).2).2).2).2).2).2).1))
  have hx_PAUSE := (and_e (and_e (and_e (and_e (and_e (and_e (and_e (and_e (and_e (and_e (and_e (and_e (and_e hn).2).2).2).2).2).2).2).2).2).2).2).2).1
  obtain ⟨w_PAUSE, ev_PAUSE⟩ := exa_v hx_PAUSE
  have S_PAUSE : Sta s s.heap "com/example/ithaca/ithaca/scenario/ScenarioEvent$Action" "PAUSE" "Lcom/example/ithaca/ithaca/scenario/ScenarioEvent$Action;" (.ref w_PAUSE) := Sta.start ev_PAUSE (Or.inr ⟨(hw _ (List.mem_of_getElem? (i := 2) rfl)), (hw _ (List.mem_of_getElem? (i := 20) rfl))⟩)
  have E_PAUSE : Exa s s.heap w_PAUSE "com/example/ithaca/ithaca/scenario/ScenarioEvent$Action" := Exa.start ev_PAUSE hx_PAUSE
  have O_PAUSE_processCount : Fld s s.heap w_PAUSE "com/example/ithaca/ithaca/scenario/ScenarioEvent$Action" "processCount" "I" (.int (1 : Int32)) := Fld.start ((fld_at ev_PAUSE).symm.trans (own_eqint (and_e (and_e (and_e (and_e (and_e (and_e (and_e (and_e (and_e (and_e (and_e (and_e (and_e (and_e hn).2).2).2).2).2).2).2).2).2).2).2).2).2).1))
  have O_PAUSE_hasTicks : Fld s s.heap w_PAUSE "com/example/ithaca/ithaca/scenario/ScenarioEvent$Action" "hasTicks" "Z" (.int (0 : Int32)) := Fld.start ((fld_at ev_PAUSE).symm.trans (own_eqint (and_e (and_e (and_e (and_e (and_e (and_e (and_e (and_e (and_e (and_e (and_e (and_e (and_e (and_e (and_e hn).2).2).2).2).2).2).2).2).2).2).2).2).2).2).1))
  have hx_START := (and_e (and_e (and_e (and_e (and_e (and_e (and_e (and_e (and_e (and_e (and_e (and_e (and_e (and_e (and_e (and_e hn).2).2).2).2).2).2).2).2).2).2).2).2).2).2).2).1
  obtain ⟨w_START, ev_START⟩ := exa_v hx_START
  have S_START : Sta s s.heap "com/example/ithaca/ithaca/scenario/ScenarioEvent$Action" "START" "Lcom/example/ithaca/ithaca/scenario/ScenarioEvent$Action;" (.ref w_START) := Sta.start ev_START (Or.inr ⟨(hw _ (List.mem_of_getElem? (i := 2) rfl)), (hw _ (List.mem_of_getElem? (i := 22) rfl))⟩)
  have E_START : Exa s s.heap w_START "com/example/ithaca/ithaca/scenario/ScenarioEvent$Action" := Exa.start ev_START hx_START
  have O_START_processCount : Fld s s.heap w_START "com/example/ithaca/ithaca/scenario/ScenarioEvent$Action" "processCount" "I" (.int (1 : Int32)) := Fld.start ((fld_at ev_START).symm.trans (own_eqint (and_e (and_e (and_e (and_e (and_e (and_e (and_e (and_e (and_e (and_e (and_e (and_e (and_e (and_e (and_e (and_e (and_e hn).2).2).2).2).2).2).2).2).2).2).2).2).2).2).2).2).1))
  have O_START_hasTicks : Fld s s.heap w_START "com/example/ithaca/ithaca/scenario/ScenarioEvent$Action" "hasTicks" "Z" (.int (0 : Int32)) := Fld.start ((fld_at ev_START).symm.trans (own_eqint (and_e (and_e (and_e (and_e (and_e (and_e (and_e (and_e (and_e (and_e (and_e (and_e (and_e (and_e (and_e (and_e (and_e (and_e hn).2).2).2).2).2).2).2).2).2).2).2).2).2).2).2).2).2).1))
  have hx_DETECT := (and_e (and_e (and_e (and_e (and_e (and_e (and_e (and_e (and_e (and_e (and_e (and_e (and_e (and_e (and_e (and_e (and_e (and_e (and_e hn).2).2).2).2).2).2).2).2).2).2).2).2).2).2).2).2).2).2).1
  obtain ⟨w_DETECT, ev_DETECT⟩ := exa_v hx_DETECT
  have S_DETECT : Sta s s.heap "com/example/ithaca/ithaca/scenario/ScenarioEvent$Action" "DETECT" "Lcom/example/ithaca/ithaca/scenario/ScenarioEvent$Action;" (.ref w_DETECT) := Sta.start ev_DETECT (Or.inr ⟨(hw _ (List.mem_of_getElem? (i := 2) rfl)), (hw _ (List.mem_of_getElem? (i := 24) rfl))⟩)
  have E_DETECT : Exa s s.heap w_DETECT "com/example/ithaca/ithaca/scenario/ScenarioEvent$Action" := Exa.start ev_DETECT hx_DETECT
  have O_DETECT_processCount : Fld s s.heap w_DETECT "com/example/ithaca/ithaca/scenario/ScenarioEvent$Action" "processCount" "I" (.int (2 : Int32)) := Fld.start ((fld_at ev_DETECT).symm.trans (own_eqint (and_e (and_e (and_e (and_e (and_e (and_e (and_e (and_e (and_e (and_e (and_e (and_e (and_e (and_e (and_e (and_e (and_e (and_e (and_e (and_e hn).2).2).2).2).2).2).2).2).2).2).2).2).2).2).2).2).2).2).2).1))
  have O_DETECT_hasTicks : Fld s s.heap w_DETECT "com/example/ithaca/ithaca/scenario/ScenarioEvent$Action" "hasTicks" "Z" (.int (0 : Int32)) := Fld.start ((fld_at ev_DETECT).symm.trans (own_eqint (and_e (and_e (and_e (and_e (and_e (and_e (and_e (and_e (and_e (and_e (and_e (and_e (and_e (and_e (and_e (and_e (and_e (and_e (and_e (and_e hn).2).2).2).2).2).2).2).2).2).2).2).2).2).2).2).2).2).2).2).2))
  obtain ⟨n, o, h1, h2, h3, _, L, rfl, ⟨rfl, N⟩, hq⟩ := rm0 l s _ hw tables_1 i0 w_CRASH w_RESTART w_RESUME w_DELAY w_PAUSE w_START w_DETECT s.heap s.heap.size (Nat.le_refl _) S_CRASH S_RESTART S_RESUME S_DELAY S_PAUSE S_START S_DETECT E_CRASH E_RESTART E_RESUME E_DELAY E_PAUSE E_START E_DETECT O_CRASH_processCount O_CRASH_hasTicks O_RESTART_processCount O_RESTART_hasTicks O_RESUME_processCount O_RESUME_hasTicks O_DELAY_processCount O_DELAY_hasTicks O_PAUSE_processCount O_PAUSE_hasTicks O_START_processCount O_START_hasTicks O_DETECT_processCount O_DETECT_hasTicks p e ha hc hk s m _ below hf ((Spec.applies_iff_loose hf).mp happ).1 ⟨rfl, State.Warmed39.refl s, rfl⟩ trivial
  refine ⟨n, _, h1, h2, h3, hpost _ _ _ _ _ _ ⟨Cond.after_iff.mpr rfl, Cond.after_iff.mpr (eq_i res_at (Term.int_eval (1)) rfl), trivial⟩ ⟨hq.1, hq.2.1, (hq.2.2.sift fun y hy => Or.inr (N y hy)).mono (by decide) (by decide)⟩⟩
theorem main_1_1 : Claimed_1_1 := comes_1 fun _ _ _ _ _ _ h hF => ⟨h.1, hF⟩
theorem main_1_2 : Claimed_1_2 := comes_1 fun _ _ _ _ _ _ h hF => ⟨h.2.1, hF⟩
end Jvm.Pilot.@@N@@
namespace Jvm.Pilot.@@N@@
open Jvm Jvm.ClassFile Sem Op Lib Jvm.Free Jvm.Stand Jvm.Pilot.@@N@@.Jvm.D
/-! MADE BY PROGRAM (witnessworld.py) out of the Statement's table words and the real class files: 12 classes; the members and pool entries that the words name. The judged class is class 1, her method 1. -/
namespace start1
open Jvm.ClassFile
def u (s : String) : CpInfo := .utf8 (stringToUtf16 s)
/-- a pool by its gaps: so many unusable entries, then the entry; so many at the end -/
def gap : Nat → List CpInfo → List CpInfo
  | 0, r => r
  | n + 1, r => .unusable :: gap n r
def poolList (es : List (Nat × CpInfo)) (last : Nat) : List CpInfo := es.foldr (fun e r => gap e.1 (e.2 :: r)) (gap last [])
def pool (es : List (Nat × CpInfo)) (last : Nat) : Array CpInfo := ⟨poolList es last⟩
def fileOf (pool : Array CpInfo) (this : Nat) (attrs : Array Attribute := #[]) (ms : Array MethodInfo := #[]) (fl : Nat := 33) (sup : Nat := 0) (ifs : Array Nat := #[]) (fds : Array FieldInfo := #[]) : ClassFile where
  minorVersion := 0
  majorVersion := 65
  constantPool := pool
  accessFlags := fl
  thisClass := this
  superClass := sup
  interfaces := ifs
  fields := fds
  methods := ms
  attributes := attrs
def plain (name : String) (sup : Option ClassId) : Class where
  name := name
  kind := .ordinary
  loader := none
  accessFlags := 33
  super := sup
  interfaces := #[]
  cf := none
  fields := #[]
  methods := #[]
  instanceTypes := #[]
  staticTypes := #[]
  resolved := #[]
  callSites := []
  init := .initialized
  statics := none
  mirror := none

def pool0 : Array CpInfo := pool [(5, u "<init>"), (0, u "()V"), (1, .class_ 10), (1, u "java/lang/Object")] 113

def k0m0 : Method := { name := "<init>", desc := "()V", sig := { parameters := [], returnType := none }, accessFlags := 1, code := none }
/-- java/lang/Object -/
def k0 : Class := { plain "java/lang/Object" none with
  accessFlags := 33
  interfaces := #[]
  cf := some (fileOf pool0 8 #[] #[{ accessFlags := 1, nameIndex := 5, descriptorIndex := 6, attributes := #[] }] 33 0 #[] #[])
  fields := #[]
  methods := #[k0m0]
  instanceTypes := #[]
  staticTypes := #[]
  resolved := Array.replicate 124 none
  statics := none }

def pool1 : Array CpInfo := pool [(2, .class_ 4), (1, u "java/lang/Object"), (0, u "<init>"), (0, u "()V"), (0, .integer 2147483647), (0, .fieldref 9 10), (0, .class_ 11), (0, .nameAndType 12 13), (0, u "com/example/ithaca/ithaca/scenario/ScenarioEvent$Action"), (0, u "CRASH"), (0, u "Lcom/example/ithaca/ithaca/scenario/ScenarioEvent$Action;"), (0, .fieldref 9 15), (0, .nameAndType 16 13), (0, u "DETECT"), (0, .fieldref 9 18), (0, .nameAndType 19 13), (0, u "START"), (0, .fieldref 9 21), (0, .nameAndType 22 13), (0, u "RESTART"), (0, .fieldref 9 24), (0, .nameAndType 25 13), (0, u "PAUSE"), (0, .fieldref 9 27), (0, .nameAndType 28 13), (0, u "RESUME"), (0, .fieldref 9 30), (0, .nameAndType 31 13), (0, u "DELAY"), (0, .methodref 9 33), (0, .nameAndType 34 35), (0, u "wordCount"), (0, u "()I"), (0, .class_ 37), (0, u "com/example/ithaca/ithaca/scenario/ActionWordCountPinLaw"), (2, u "law"), (0, u "(I)Z")] 7

def k1m0 : Method := { name := "<init>", desc := "()V", sig := { parameters := [], returnType := none }, accessFlags := 1, code := none }
def k1c1 : Code := { maxStack := 2, maxLocals := 4, code := code, exceptionTable := #[], attributes := #[] }
def k1m1 : Method := { name := "law", desc := "(I)Z", sig := { parameters := [.int], returnType := some .boolean }, accessFlags := 9, code := some k1c1 }
/-- com/example/ithaca/ithaca/scenario/ActionWordCountPinLaw -/
def k1 : Class := { plain "com/example/ithaca/ithaca/scenario/ActionWordCountPinLaw" (some 0) with
  accessFlags := 49
  interfaces := #[]
  cf := some (fileOf pool1 36 #[] #[{ accessFlags := 1, nameIndex := 5, descriptorIndex := 6, attributes := #[] }, { accessFlags := 9, nameIndex := 40, descriptorIndex := 41, attributes := #[] }] 49 2 #[] #[])
  fields := #[]
  methods := #[k1m0, k1m1]
  instanceTypes := #[]
  staticTypes := #[]
  resolved := Array.replicate 49 none
  statics := none }

def pool2 : Array CpInfo := pool [(1, .class_ 2), (0, u "java/lang/constant/Constable"), (0, .class_ 4), (0, u "java/lang/Object")] 6

/-- java/lang/constant/Constable -/
def k2 : Class := { plain "java/lang/constant/Constable" (some 0) with
  accessFlags := 1537
  interfaces := #[]
  cf := some (fileOf pool2 1 #[] #[] 1537 3 #[] #[])
  fields := #[]
  methods := #[]
  instanceTypes := #[]
  staticTypes := #[]
  resolved := Array.replicate 11 none
  statics := none }

def pool3 : Array CpInfo := pool [(1, .class_ 2), (0, u "java/lang/Comparable"), (0, .class_ 4), (0, u "java/lang/Object")] 7

/-- java/lang/Comparable -/
def k3 : Class := { plain "java/lang/Comparable" (some 0) with
  accessFlags := 1537
  interfaces := #[]
  cf := some (fileOf pool3 1 #[] #[] 1537 3 #[] #[])
  fields := #[]
  methods := #[]
  instanceTypes := #[]
  staticTypes := #[]
  resolved := Array.replicate 12 none
  statics := none }

def pool4 : Array CpInfo := pool [(1, .class_ 2), (0, u "java/io/Serializable"), (0, .class_ 4), (0, u "java/lang/Object")] 2

/-- java/io/Serializable -/
def k4 : Class := { plain "java/io/Serializable" (some 0) with
  accessFlags := 1537
  interfaces := #[]
  cf := some (fileOf pool4 1 #[] #[] 1537 3 #[] #[])
  fields := #[]
  methods := #[]
  instanceTypes := #[]
  staticTypes := #[]
  resolved := Array.replicate 7 none
  statics := none }

def pool5 : Array CpInfo := pool [(2, .class_ 4), (1, u "java/lang/Enum"), (0, u "name"), (0, u "Ljava/lang/String;"), (2, u "ordinal"), (0, u "I"), (1, .class_ 14), (1, u "java/lang/Object"), (4, u "hash"), (86, .class_ 108), (1, u "java/lang/Enum$EnumDesc"), (2, .class_ 112), (0, u "java/lang/constant/Constable"), (0, .class_ 114), (0, u "java/lang/Comparable"), (0, .class_ 116), (0, u "java/io/Serializable")] 87

/-- java/lang/Enum -/
def k5 : Class := { plain "java/lang/Enum" (some 0) with
  accessFlags := 1057
  interfaces := #[2, 3, 4]
  cf := some (fileOf pool5 2 #[.nestMembers #[106]] #[] 1057 12 #[111, 113, 115] #[{ accessFlags := 18, nameIndex := 5, descriptorIndex := 6, attributes := #[] }, { accessFlags := 18, nameIndex := 9, descriptorIndex := 10, attributes := #[] }, { accessFlags := 2, nameIndex := 19, descriptorIndex := 10, attributes := #[] }])
  fields := #[{ name := "name", type := (.object "java/lang/String"), accessFlags := 18, slot := 0, constantValue := 0 }, { name := "ordinal", type := .int, accessFlags := 18, slot := 1, constantValue := 0 }, { name := "hash", type := .int, accessFlags := 2, slot := 2, constantValue := 0 }]
  methods := #[]
  instanceTypes := #[(.object "java/lang/String"), .int, .int]
  staticTypes := #[]
  resolved := Array.replicate 204 none
  statics := none }

def pool6 : Array CpInfo := pool [(1, .class_ 2), (0, u "com/example/ithaca/ithaca/scenario/ScenarioEvent$Action"), (2, u "CRASH"), (0, u "Lcom/example/ithaca/ithaca/scenario/ScenarioEvent$Action;"), (2, u "DETECT"), (2, u "START"), (2, u "RESTART"), (2, u "PAUSE"), (2, u "RESUME"), (2, u "DELAY"), (2, u "$VALUES"), (0, u "[Lcom/example/ithaca/ithaca/scenario/ScenarioEvent$Action;"), (6, .class_ 37), (1, u "java/lang/Enum"), (8, u "word"), (0, u "Ljava/lang/String;"), (0, .fieldref 1 49), (0, .nameAndType 50 51), (0, u "processCount"), (0, u "I"), (0, .fieldref 1 53), (0, .nameAndType 54 55), (0, u "hasTicks"), (0, u "Z"), (48, u "()I"), (1, u "wordCount"), (10, .class_ 118), (0, u "com/example/ithaca/ithaca/scenario/ScenarioEvent")] 16

def k6c0 : Code := { maxStack := 2, maxLocals := 1, code := prog_40_method_7_code, exceptionTable := #[], attributes := #[] }
def k6m0 : Method := { name := "wordCount", desc := "()I", sig := { parameters := [], returnType := some .int }, accessFlags := 0, code := some k6c0 }
/-- com/example/ithaca/ithaca/scenario/ScenarioEvent$Action -/
def k6 : Class := { plain "com/example/ithaca/ithaca/scenario/ScenarioEvent$Action" (some 5) with
  accessFlags := 16433
  interfaces := #[]
  cf := some (fileOf pool6 1 #[.nestHost 117] #[{ accessFlags := 0, nameIndex := 106, descriptorIndex := 104, attributes := #[] }] 16433 35 #[] #[{ accessFlags := 16409, nameIndex := 5, descriptorIndex := 6, attributes := #[] }, { accessFlags := 16409, nameIndex := 9, descriptorIndex := 6, attributes := #[] }, { accessFlags := 16409, nameIndex := 12, descriptorIndex := 6, attributes := #[] }, { accessFlags := 16409, nameIndex := 15, descriptorIndex := 6, attributes := #[] }, { accessFlags := 16409, nameIndex := 18, descriptorIndex := 6, attributes := #[] }, { accessFlags := 16409, nameIndex := 21, descriptorIndex := 6, attributes := #[] }, { accessFlags := 16409, nameIndex := 24, descriptorIndex := 6, attributes := #[] }, { accessFlags := 18, nameIndex := 46, descriptorIndex := 47, attributes := #[] }, { accessFlags := 18, nameIndex := 50, descriptorIndex := 51, attributes := #[] }, { accessFlags := 18, nameIndex := 54, descriptorIndex := 55, attributes := #[] }, { accessFlags := 4122, nameIndex := 27, descriptorIndex := 28, attributes := #[] }])
  fields := #[{ name := "CRASH", type := (.object "com/example/ithaca/ithaca/scenario/ScenarioEvent$Action"), accessFlags := 16409, slot := 0, constantValue := 0 }, { name := "DETECT", type := (.object "com/example/ithaca/ithaca/scenario/ScenarioEvent$Action"), accessFlags := 16409, slot := 1, constantValue := 0 }, { name := "START", type := (.object "com/example/ithaca/ithaca/scenario/ScenarioEvent$Action"), accessFlags := 16409, slot := 2, constantValue := 0 }, { name := "RESTART", type := (.object "com/example/ithaca/ithaca/scenario/ScenarioEvent$Action"), accessFlags := 16409, slot := 3, constantValue := 0 }, { name := "PAUSE", type := (.object "com/example/ithaca/ithaca/scenario/ScenarioEvent$Action"), accessFlags := 16409, slot := 4, constantValue := 0 }, { name := "RESUME", type := (.object "com/example/ithaca/ithaca/scenario/ScenarioEvent$Action"), accessFlags := 16409, slot := 5, constantValue := 0 }, { name := "DELAY", type := (.object "com/example/ithaca/ithaca/scenario/ScenarioEvent$Action"), accessFlags := 16409, slot := 6, constantValue := 0 }, { name := "word", type := (.object "java/lang/String"), accessFlags := 18, slot := 3, constantValue := 0 }, { name := "processCount", type := .int, accessFlags := 18, slot := 4, constantValue := 0 }, { name := "hasTicks", type := .boolean, accessFlags := 18, slot := 5, constantValue := 0 }, { name := "$VALUES", type := (.array (.object "com/example/ithaca/ithaca/scenario/ScenarioEvent$Action")), accessFlags := 4122, slot := 7, constantValue := 0 }]
  methods := #[k6m0]
  instanceTypes := #[(.object "java/lang/String"), .int, .int, (.object "java/lang/String"), .int, .boolean]
  staticTypes := #[(.object "com/example/ithaca/ithaca/scenario/ScenarioEvent$Action"), (.object "com/example/ithaca/ithaca/scenario/ScenarioEvent$Action"), (.object "com/example/ithaca/ithaca/scenario/ScenarioEvent$Action"), (.object "com/example/ithaca/ithaca/scenario/ScenarioEvent$Action"), (.object "com/example/ithaca/ithaca/scenario/ScenarioEvent$Action"), (.object "com/example/ithaca/ithaca/scenario/ScenarioEvent$Action"), (.object "com/example/ithaca/ithaca/scenario/ScenarioEvent$Action"), (.array (.object "com/example/ithaca/ithaca/scenario/ScenarioEvent$Action"))]
  resolved := Array.replicate 135 none
  statics := some 0 }

def pool7 : Array CpInfo := pool [(1, u "java/lang/Cloneable"), (0, .class_ 1), (0, u "java/lang/Object"), (0, .class_ 3)] 3

/-- java/lang/Cloneable -/
def k7 : Class := { plain "java/lang/Cloneable" (some 0) with
  accessFlags := 1537
  interfaces := #[]
  cf := some (fileOf pool7 2 #[] #[] 1537 4 #[] #[])
  fields := #[]
  methods := #[]
  instanceTypes := #[]
  staticTypes := #[]
  resolved := Array.replicate 8 none
  statics := none }

/-- the primitive byte -/
def k8 : Class := { plain "byte" none with kind := .primitive 'B', accessFlags := 0x411 }
/-- [B -/
def k9 : Class := { plain "[B" (some 0) with kind := .array 8 .byte, interfaces := #[7, 4], accessFlags := 1041 }

/-- the primitive int -/
def k10 : Class := { plain "int" none with kind := .primitive 'I', accessFlags := 0x411 }
/-- [I -/
def k11 : Class := { plain "[I" (some 0) with kind := .array 10 .int, interfaces := #[7, 4], accessFlags := 1041 }

def heap : Heap := #[{ cls := 6, slots := #[.ref 1, .ref 7, .ref 6, .ref 2, .ref 5, .ref 3, .ref 4, .null], vm := .statics 6 },
  { cls := 6, slots := #[.null, .int 0, .int 0, .null, .int 1, .int 0], vm := .none },
  { cls := 6, slots := #[.null, .int 0, .int 0, .null, .int 1, .int 0], vm := .none },
  { cls := 6, slots := #[.null, .int 0, .int 0, .null, .int 1, .int 0], vm := .none },
  { cls := 6, slots := #[.null, .int 0, .int 0, .null, .int 2, .int 1], vm := .none },
  { cls := 6, slots := #[.null, .int 0, .int 0, .null, .int 1, .int 0], vm := .none },
  { cls := 6, slots := #[.null, .int 0, .int 0, .null, .int 1, .int 0], vm := .none },
  { cls := 6, slots := #[.null, .int 0, .int 0, .null, .int 2, .int 0], vm := .none }]
def classes : Array Class := #[k0, k1, k2, k3, k4, k5, k6, k7, k8, k9, k10, k11]
def interned : List (Array UInt16 × Addr) := []
def slotsUsed : Nat := 50
def theMethod : MethodId := ⟨1, 1⟩
def args0 : Array Value := #[.int 5]
def aboutOver (below : List Frame) : State where
  vm := { classes := classes, interned := interned.toArray }
  heap := heap
  slotsUsed := slotsUsed
  threads := #[{ frames := .invoking theMethod args0 :: below }]
def below0 : List Frame := [.native { method := ⟨0, 0⟩, args := #[] }]
def about1 : State := aboutOver below0
def p0 : Program := .bare "" "" ""
def e0 : Env := launch0.env 0 0 0
theorem w_frames : about1.frames = Frame.invoking theMethod args0 :: below0 := rfl
set_option maxRecDepth 65536 in
theorem w_args : argsFit about1.vm theMethod args0 = true := by decide +kernel
set_option maxRecDepth 65536 in
theorem w_heap : heapFits about1 = true := by decide +kernel
set_option maxRecDepth 65536 in
theorem w_runnable : about1.curStatus? = some .runnable := by decide +kernel
set_option maxRecDepth 65536 in
theorem w_alone : about1.alone = true := by decide +kernel
set_option maxRecDepth 65536 in
theorem w_named : about1.methodNamed? x = some theMethod := by decide +kernel
set_option maxRecDepth 65536 in
theorem w_hears : about1.hears theMethod below0 = true := by decide +kernel
set_option maxRecDepth 65536 in
theorem w_ripe : about1.ripe theMethod args0 below0 = true := by decide +kernel
theorem w_running : about1.status = .running := rfl
set_option maxRecDepth 65536 in
theorem w_room : about1.hasRoom e0.platform room_1 = true :=
  launch0.hasRoom_least _ room_1 (by decide +kernel) (by decide +kernel) (by decide +kernel) (by decide +kernel) (by decide +kernel) (by decide +kernel)
theorem allAtoms_all (ts : List Jvm.Cond) (a : Array Jvm.Value) (st : Jvm.State) : (allAtoms ts).before a st = ts.all (fun c => c.before a st) := by
  induction ts with
  | nil => rfl
  | cons c t ih =>
    show (Jvm.Cond.and c (allAtoms t)).before a st = _
    rw [Jvm.Cond.before_and, ih, List.all_cons]
def words1 : List Jvm.Cond := Jvm.Cond.code x code maxLocals ret :: tables_1
/-- a 'code' word, met by the world's own term for the bytes: nothing is compared byte by byte -/
theorem code_word {y : MethodName} {bytes : ByteArray} {mx : Nat} {rt : Option FieldType} {a : Array Value} {s : State} {m : MethodId} {meth : Method} {c : Code} (h1 : s.methodNamed? y = some m) (h2 : s.vm.method? m = some meth) (h3 : meth.code = some c) (h4 : c.code = bytes)
    (h5 : (c.maxLocals == mx && c.exceptionTable.isEmpty && decide (c.maxStack ≤ mostOperands) && decide (meth.sig.returnType = rt) && !meth.locks && decide (parseMethodDescriptor y.desc = some meth.sig)) = true) : (Jvm.Cond.code y bytes mx rt).before a s = true := by
  simp only [Bool.and_eq_true, beq_iff_eq, Bool.not_eq_true', decide_eq_true_eq] at h5
  obtain ⟨⟨⟨⟨⟨g1, g2⟩, g3⟩, g4⟩, g5⟩, g6⟩ := h5
  simp [Cond.before, Cond.holds, Cond.value, h1, h2, h3, h4, g1, g2, g3, g4, g5, g6]
def isCode : Jvm.Cond → Bool
  | .code _ _ _ _ => true
  | _ => false
theorem all_split {L : List Jvm.Cond} {P : Jvm.Cond → Bool} (h1 : L.all (fun c => isCode c || P c) = true) (h2 : ∀ c ∈ L.filter isCode, P c = true) : L.all P = true := by
  refine List.all_eq_true.mpr fun c hc => ?_
  have h := List.all_eq_true.mp h1 c hc
  rcases Bool.eq_false_or_eq_true (isCode c) with hi | hi
  · exact h2 c (List.mem_filter.mpr ⟨hc, hi⟩)
  · simpa [hi] using h
set_option maxRecDepth 65536 in
theorem w_c0 : (Jvm.Cond.code x code maxLocals ret).before args0 about1 = true := code_word (m := ⟨1, 1⟩) (meth := k1m1) (c := k1c1) (by decide +kernel) rfl rfl rfl (by decide +kernel)
set_option maxRecDepth 65536 in
theorem w_c1 : (Jvm.Cond.code ({ cls := "com/example/ithaca/ithaca/scenario/ScenarioEvent$Action", name := "wordCount", desc := "()I" } : Jvm.MethodName) prog_40_method_7_code (1 : Nat) (Option.some Jvm.ClassFile.FieldType.int)).before args0 about1 = true := code_word (m := ⟨6, 0⟩) (meth := k6m0) (c := k6c0) (by decide +kernel) rfl rfl rfl (by decide +kernel)
def codes1 : List Jvm.Cond := [Jvm.Cond.code x code maxLocals ret, Jvm.Cond.code ({ cls := "com/example/ithaca/ithaca/scenario/ScenarioEvent$Action", name := "wordCount", desc := "()I" } : Jvm.MethodName) prog_40_method_7_code (1 : Nat) (Option.some Jvm.ClassFile.FieldType.int)]
set_option maxRecDepth 65536 in
theorem codes_eq : words1.filter isCode = codes1 := rfl
theorem w_codes : ∀ c ∈ words1.filter isCode, c.before args0 about1 = true := by
  rw [codes_eq]
  intro c hc
  simp only [codes1, List.mem_cons, List.not_mem_nil, or_false] at hc
  rcases hc with rfl | rfl
  · exact w_c0
  · exact w_c1
set_option maxRecDepth 65536 in
theorem w_t1 : (words1.take 24).all (fun c => isCode c || c.before args0 about1) = true := by decide +kernel
set_option maxRecDepth 65536 in
theorem w_t2 : (words1.drop 24).all (fun c => isCode c || c.before args0 about1) = true := by decide +kernel
theorem w_tables : (allAtoms (Jvm.Cond.code x code maxLocals ret :: tables_1)).before args0 about1 = true := by
  rw [allAtoms_all]
  show words1.all (fun c => c.before args0 about1) = true
  refine all_split ?_ w_codes
  rw [← List.take_append_drop 24 words1, List.all_append, w_t1, w_t2]
  rfl
set_option maxRecDepth 65536 in
theorem w_case : (Jvm.Cond.and given_1 narrow_1).before args0 about1 = true := by decide +kernel
theorem w_applies : (headSpec (Jvm.Cond.code x code maxLocals ret :: tables_1) room_1).applies x e0.platform about1 = true :=
  (Spec.applies_iff w_frames).mpr ⟨w_running, w_runnable, w_alone, w_named, w_hears, w_ripe, w_room, w_tables⟩
theorem atStart : AtStart classFile x code maxLocals ret World_1 tables_1 room_1 Calls_1 rest_1 Pre_1 launch0 p0 e0 about1 theMethod args0 below0 :=
  ⟨lists_1, trivial, launch0.admits_env _ _ _, launch0.least_env, fairChoices_fair.cas, fairChoices_fair.clock, w_frames, w_args, w_heap, w_applies, trivial, trivial, w_case⟩
end start1
theorem witness_1 : WitnessClaimed_1 := ⟨start1.p0, start1.e0, start1.about1, start1.theMethod, start1.args0, start1.below0, start1.atStart⟩
end Jvm.Pilot.@@N@@
