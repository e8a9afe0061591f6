import JvmDerived
import JvmDerived.Pilot.@@N@@Statement
import JvmDerived.Pilot.@@N@@Code
set_option linter.unusedVariables false
set_option linter.unusedSimpArgs false
namespace Jvm.RoadKit
open Sem ClassFile Op Lib Jvm.Stand Jvm.Free Jvm.LawKit
section New
variable {p : Program} {l : Launch} {e : Env} {R : Room} {s : State} {m : MethodId} {args : Array Value} {below : List Frame} {meth : Method} {c : Code} {T : State} {locs : List Loc} {cells slots : Nat}
theorem own_retV (X : Stand p l e R s m args below meth c T locs cells slots) (hx : p.tables.exec = Jvm.exec) {pc : Nat} {Ls : Array Slot} {w : Value} {rest : List Value} {t : FieldType} (hret : meth.sig.returnType = some t) (ht : t.isReference = true) (hw : w.isRef = true)
    (hd : decode c.code pc = .ok (.areturn, 1)) {fs : List Frame} (hl : ∀ (f : JFrame) (acts : List Action), f.method = m → f.locked = none → f.entered = [] → (doReturn e (T.setTop f) acts (some w)).1 = T.setFrames fs) :
    Steps p.tables e below (T.setTop (mkF m pc Ls (w :: rest))) (T.setFrames fs) :=
  retOut X hx hret (by cases t <;> first | rfl | cases ht) (Or.inr (Or.inr (Or.inr (Or.inr ⟨rfl, ht, hw⟩)))) hd hl
theorem own_retI (X : Stand p l e R s m args below meth c T locs cells slots) (hx : p.tables.exec = Jvm.exec) {pc : Nat} {Ls : Array Slot} {z : Int32} {rest : List Value} (hret : meth.sig.returnType = some .int)
    (hd : decode c.code pc = .ok (.ireturn, 1)) {fs : List Frame} (hl : ∀ (f : JFrame) (acts : List Action), f.method = m → f.locked = none → f.entered = [] → (doReturn e (T.setTop f) acts (some (.int z))).1 = T.setFrames fs) :
    Steps p.tables e below (T.setTop (mkF m pc Ls (.int z :: rest))) (T.setFrames fs) :=
  retOut X hx hret rfl (Or.inl ⟨rfl, Or.inl rfl, z, rfl⟩) hd hl
theorem own_retL (X : Stand p l e R s m args below meth c T locs cells slots) (hx : p.tables.exec = Jvm.exec) {pc : Nat} {Ls : Array Slot} {z : Int64} {rest : List Value} (hret : meth.sig.returnType = some .long)
    (hd : decode c.code pc = .ok (.lreturn, 1)) {fs : List Frame} (hl : ∀ (f : JFrame) (acts : List Action), f.method = m → f.locked = none → f.entered = [] → (doReturn e (T.setTop f) acts (some (.long z))).1 = T.setFrames fs) :
    Steps p.tables e below (T.setTop (mkF m pc Ls (.long z :: rest))) (T.setFrames fs) :=
  retOut X hx hret rfl (Or.inr (Or.inl ⟨rfl, rfl, z, rfl⟩)) hd hl
theorem own_go {tb : Tables} {e : Env} {below : List Frame} {A A' : State} {P : State → Outcome → Prop} (st : ∀ t, Steps tb e below A' t → Steps tb e below A t) (h : ∃ s₂ o, Steps tb e below A' s₂ ∧ P s₂ o) : ∃ s₂ o, Steps tb e below A s₂ ∧ P s₂ o :=
  let ⟨s₂, o, h1, h2⟩ := h
  ⟨s₂, o, st _ h1, h2⟩
theorem own_fld_inj {Z : State} {h : Heap} {a : Addr} {C n d : String} {v w : Value} (F : Fld Z h a C n d v) (G : Fld Z h a C n d w) : v = w := by
  obtain ⟨c1, cf1, k1, i1, f1, p1, p2, -, -, -, -, p5⟩ := F
  obtain ⟨c2, cf2, k2, i2, f2, q1, q2, -, -, -, -, q5⟩ := G
  rw [p1] at q1; cases q1
  rw [p2] at q2; cases q2
  have := p5.symm.trans q5
  simpa using this
theorem own_fld_ne {Z : State} {h : Heap} {a b : Addr} {C n d : String} {i j : Int32} (F : Fld Z h a C n d (.int i)) (G : Fld Z h b C n d (.int j)) (hij : ¬ i = j) : ¬ a = b := fun q => by
  subst q
  exact hij (Value.int.inj (own_fld_inj F G))
theorem own_keep_ext {h h' : Heap} (K : Keep h h' []) : Ext h h' := ⟨K.1, fun a c q => K.2.1 a c q nin0⟩
theorem own_sta_keep {Z : State} {h h' : Heap} {C n d K : String} {v : Value} {a : Addr} (F : Sta Z h C n d v) (k : Keep h h' [a]) (E : Exa Z h a K) : Sta Z h' C n d v := by
  obtain ⟨cf, i, kk, f, st, cell, h1, h2, h3, h4, h5, h6, h7⟩ := F
  refine ⟨cf, i, kk, f, st, cell, h1, h2, h3, h4, k.2.1 _ _ h5 (ninS (fun q => ?_) nin0), h6, h7⟩
  obtain ⟨cell', k', g1, -, -, g4, -⟩ := E
  subst q
  cases h5.symm.trans g1
  rw [h6] at g4; cases g4
theorem own_ext_trans {h h' h'' : Heap} (E : Ext h h') (F : Ext h' h'') : Ext h h'' := ⟨Nat.le_trans E.1 F.1, fun a c q => F.2 a c (E.2 a c q)⟩
theorem own_ext_keep {h h' h'' : Heap} {ws : List Addr} (E : Ext h h') (K : Keep h' h'' ws) (q : ∀ x ∈ ws, h.size ≤ x) : Ext h h'' :=
  ⟨Nat.le_trans E.1 K.1, fun a c r => K.2.1 a c (E.2 a c r) fun z => absurd (Array.getElem?_eq_some_iff.mp r).1 (Nat.not_lt.mpr (q a z))⟩
theorem own_ext_wr {h h' h'' : Heap} {b : Addr} {sl : Nat} {v : Value} (E : Ext h h') (W : Wr h' h'' b sl v) (q : h.size ≤ b) : Ext h h'' :=
  own_ext_keep E (Keep.of_wr W) fun x hx => by cases List.mem_singleton.mp hx; exact q
end New
end Jvm.RoadKit
namespace Jvm.Pilot.@@N@@
open Jvm Jvm.ClassFile Sem Op Lib Jvm.Free Jvm.Stand Jvm.LawKit Jvm.RoadKit Bundle Jvm.Pilot.@@N@@.Jvm.D
def fd (v u a : Addr) : Int32 := if a = v then 1 else if a = u then 1 else 0
theorem d1_0 : decode prog_19_method_4_code 0 = .ok (.aload_n 0, 1) := by decide +kernel
theorem d1_1 : decode prog_19_method_4_code 1 = .ok (.getstatic 13, 3) := by decide +kernel
theorem d1_4 : decode prog_19_method_4_code 4 = .ok (.if_acmp .eq 10, 3) := by decide +kernel
theorem d1_7 : decode prog_19_method_4_code 7 = .ok (.aload_n 0, 1) := by decide +kernel
theorem d1_8 : decode prog_19_method_4_code 8 = .ok (.getstatic 16, 3) := by decide +kernel
theorem d1_11 : decode prog_19_method_4_code 11 = .ok (.if_acmp .ne 7, 3) := by decide +kernel
theorem d1_14 : decode prog_19_method_4_code 14 = .ok (.iconst 1, 1) := by decide +kernel
theorem d1_15 : decode prog_19_method_4_code 15 = .ok (.goto 4, 3) := by decide +kernel
theorem d1_18 : decode prog_19_method_4_code 18 = .ok (.iconst 0, 1) := by decide +kernel
theorem d1_19 : decode prog_19_method_4_code 19 = .ok (.ireturn, 1) := by decide +kernel
theorem pn_1 : plainName "com/example/ithaca/ithaca/election/MessageKind" = true := by first | (simp [plainName, overriddenIn]; done) | decide +kernel
theorem ef_1 (m : MethodId) (r0 : Addr) : entryFrame m #[(.ref r0)] 1 = mkF m 0 #[.val (.ref r0)] [] := by first | (simp [entryFrame, mkF, argsToLocals, Value.category]; done) | rfl
def Q1 (Z : State) (r0 : Addr) (w_ELECTION : Addr) (w_HEARTBEAT : Addr) (w_LEAVE : Addr) (w_ANSWER : Addr) (w_COORDINATOR : Addr) (h0 : Heap) (n0 : Nat) (v : Option Value) (h : Heap) (L : List Loc) : Prop := v = some (.int (fd w_HEARTBEAT w_LEAVE r0)) ∧ Fr n0 L ∧ h = h0
set_option maxRecDepth 65536 in
set_option maxHeartbeats 40000000 in
theorem rm1 (l : Launch) (Z : State) (a0 : Array Value) (hw : ∀ d ∈ tables_1, d.before a0 Z = true) (ws : List Jvm.Cond) (r0 : Addr) (w_ELECTION : Addr) (w_HEARTBEAT : Addr) (w_LEAVE : Addr) (w_ANSWER : Addr) (w_COORDINATOR : Addr) (h0 : Heap) (n0 : Nat) (Z0 : n0 ≤ h0.size) (S_ELECTION : Sta Z h0 "com/example/ithaca/ithaca/election/MessageKind" "ELECTION" "Lcom/example/ithaca/ithaca/election/MessageKind;" (.ref w_ELECTION)) (S_HEARTBEAT : Sta Z h0 "com/example/ithaca/ithaca/election/MessageKind" "HEARTBEAT" "Lcom/example/ithaca/ithaca/election/MessageKind;" (.ref w_HEARTBEAT)) (S_LEAVE : Sta Z h0 "com/example/ithaca/ithaca/election/MessageKind" "LEAVE" "Lcom/example/ithaca/ithaca/election/MessageKind;" (.ref w_LEAVE)) (S_ANSWER : Sta Z h0 "com/example/ithaca/ithaca/election/MessageKind" "ANSWER" "Lcom/example/ithaca/ithaca/election/MessageKind;" (.ref w_ANSWER)) (S_COORDINATOR : Sta Z h0 "com/example/ithaca/ithaca/election/MessageKind" "COORDINATOR" "Lcom/example/ithaca/ithaca/election/MessageKind;" (.ref w_COORDINATOR)) (E_ELECTION : Exa Z h0 w_ELECTION "com/example/ithaca/ithaca/election/MessageKind") (E_HEARTBEAT : Exa Z h0 w_HEARTBEAT "com/example/ithaca/ithaca/election/MessageKind") (E_LEAVE : Exa Z h0 w_LEAVE "com/example/ithaca/ithaca/election/MessageKind") (E_ANSWER : Exa Z h0 w_ANSWER "com/example/ithaca/ithaca/election/MessageKind") (E_COORDINATOR : Exa Z h0 w_COORDINATOR "com/example/ithaca/ithaca/election/MessageKind") (O_ELECTION_ordinal : Fld Z h0 w_ELECTION "java/lang/Enum" "ordinal" "I" (.int (0 : Int32))) (O_HEARTBEAT_ordinal : Fld Z h0 w_HEARTBEAT "java/lang/Enum" "ordinal" "I" (.int (3 : Int32))) (O_LEAVE_ordinal : Fld Z h0 w_LEAVE "java/lang/Enum" "ordinal" "I" (.int (4 : Int32))) (O_ANSWER_ordinal : Fld Z h0 w_ANSWER "java/lang/Enum" "ordinal" "I" (.int (1 : Int32))) (O_COORDINATOR_ordinal : Fld Z h0 w_COORDINATOR "java/lang/Enum" "ordinal" "I" (.int (2 : Int32))) :
    MetFree l (⟨"com/example/ithaca/ithaca/election/MessageKind", "isForDetector", "()Z"⟩ : MethodName) (head1 (Jvm.Cond.code (⟨"com/example/ithaca/ithaca/election/MessageKind", "isForDetector", "()Z"⟩ : MethodName) prog_19_method_4_code 1 (some .boolean) :: ws) ({ frames := 0, cells := 0, slots := 0, locals := 0 } : Room)) (fun a U => a = #[(.ref r0)] ∧ Z.Warmed39 U.vm ∧ U.heap = h0) (fun _ _ _ _ _ => True) (fun _ U o U' => ∃ v L, o = .returned v ∧ Q1 Z r0 w_ELECTION w_HEARTBEAT w_LEAVE w_ANSWER w_COORDINATOR h0 n0 v U'.heap L ∧ FrameEnd U o U' L ({ frames := 0, cells := 0, slots := 0, locals := 0 } : Room).cells ({ frames := 0, cells := 0, slots := 0, locals := 0 } : Room).slots) := by
  refine MetFree.of_bodySF (plainFor_of_name pn_1) hisR ?_
  intro p e s m args below meth c s₁ Bd hml0 hP hK
  obtain ⟨rfl, hZ, hh⟩ := hP
  have hx := Bd.exec
  have hby := Bd.bytes
  have hml : c.maxLocals = 1 := hml0
  have hown : s.vm.findClass "com/example/ithaca/ithaca/election/MessageKind" = some m.cls := findClass_of_methodNamed Bd.named
  have hnm := (name_of_methodNamed Bd.named Bd.method).1
  have X0 : Stand p l e ({ frames := 0, cells := 0, slots := 0, locals := 0 } : Room) s m #[(.ref r0)] below meth c s₁ [] 0 0 := Stand.of_body Bd
  have e0 : s₁.heap = h0 := by rw [← hh, Bd.state]; rfl
  have N0 := Fr.nil n0
  refine own_go (A' := (s₁.setTop (mkF m 0 #[.val (.ref r0)] []))) (fun t k => castTop (ef_1 m r0) k) ?_
  obtain ⟨T1, X1, e1, st1⟩ := getS2 X0 hx hZ hown (host := "") (Or.inl (hw _ (List.mem_of_getElem? (i := 9) rfl))) Via.refl e0 S_HEARTBEAT (g := (mkF m 1 #[.val (.ref r0)] [(.ref r0)])) rfl (hb hby d1_1)
  refine own_go (A' := (T1.setTop (mkF m 4 #[.val (.ref r0)] [(.ref w_HEARTBEAT), (.ref r0)]))) (fun t k => ?_) ?_
  · show Steps p.tables e below (s₁.setTop (mkF m 0 #[.val (.ref r0)] [])) _
    refine XS.aloadN X0.here hx rfl (hb hby d1_0) rfl rfl ?_
    show Steps p.tables e below (s₁.setTop (mkF m 1 #[.val (.ref r0)] [(.ref r0)])) _
    refine st1 _ ?_
    exact k
  by_cases hc2 : r0 = w_HEARTBEAT
  · -- hc2: yes
    refine own_go (A' := (T1.setTop (mkF m 14 #[.val (.ref r0)] []))) (fun t k => Jvm.RoadKit.acmp (g := (mkF m 4 #[.val (.ref r0)] [(.ref w_HEARTBEAT), (.ref r0)])) X1 hx rfl rfl rfl (pc0 := 4) (pc' := 14) (same := true) rfl (hb hby d1_4) rfl (decide_eq_true (congrArg Value.ref hc2)) (by decide) (by decide) k) ?_
    refine own_go (A' := (T1.setTop (mkF m 19 #[.val (.ref r0)] [(.int (1 : Int32))]))) (fun t k => ?_) ?_
    · show Steps p.tables e below (T1.setTop (mkF m 14 #[.val (.ref r0)] [])) _
      refine XS.iconst X1.here hx rfl (hb hby d1_14) ?_
      show Steps p.tables e below (T1.setTop (mkF m 15 #[.val (.ref r0)] [(.int (1 : Int32))])) _
      refine XS.goto X1.here hx rfl (pc0 := 15) (pc' := 19) rfl (hb hby d1_15) (by decide) (by decide) ?_
      exact k
    obtain ⟨fs, hr, hrun, hended, hW, hsame⟩ := X1.leave (v := some (.int (1 : Int32))) (fun h => by rw [Bd.returns] at h; cases h)
    refine ⟨_, _, ?_, hrun, hended, _, _, rfl, ?_, ⟨_, rfl⟩, hW, hsame.mono (by decide) (by decide)⟩
    · show Steps p.tables e below (T1.setTop (mkF m 19 #[.val (.ref r0)] [(.int (1 : Int32))])) _
      exact retN X1 hx (t := .boolean) Bd.returns (by simp) (hb hby d1_19) hr
    · show Q1 Z r0 w_ELECTION w_HEARTBEAT w_LEAVE w_ANSWER w_COORDINATOR h0 n0 _ _ _
      exact ⟨(by rw [fd, if_pos hc2]), N0, e1⟩
  · -- hc2: no
    refine own_go (A' := (T1.setTop (mkF m 7 #[.val (.ref r0)] []))) (fun t k => Jvm.RoadKit.acmp (g := (mkF m 4 #[.val (.ref r0)] [(.ref w_HEARTBEAT), (.ref r0)])) X1 hx rfl rfl rfl (pc0 := 4) (pc' := 7) (same := false) rfl (hb hby d1_4) rfl (decide_eq_false fun q => hc2 (Value.ref.inj q)) (by decide) (by decide) k) ?_
    obtain ⟨T3, X3, e3, st3⟩ := getS2 X1 hx hZ hown (host := "") (Or.inl (hw _ (List.mem_of_getElem? (i := 11) rfl))) Via.refl e1 S_LEAVE (g := (mkF m 8 #[.val (.ref r0)] [(.ref r0)])) rfl (hb hby d1_8)
    refine own_go (A' := (T3.setTop (mkF m 11 #[.val (.ref r0)] [(.ref w_LEAVE), (.ref r0)]))) (fun t k => ?_) ?_
    · show Steps p.tables e below (T1.setTop (mkF m 7 #[.val (.ref r0)] [])) _
      refine XS.aloadN X1.here hx rfl (hb hby d1_7) rfl rfl ?_
      show Steps p.tables e below (T1.setTop (mkF m 8 #[.val (.ref r0)] [(.ref r0)])) _
      refine st3 _ ?_
      exact k
    by_cases hc4 : r0 = w_LEAVE
    · -- hc4: yes
      refine own_go (A' := (T3.setTop (mkF m 14 #[.val (.ref r0)] []))) (fun t k => Jvm.RoadKit.acmp (g := (mkF m 11 #[.val (.ref r0)] [(.ref w_LEAVE), (.ref r0)])) X3 hx rfl rfl rfl (pc0 := 11) (pc' := 14) (same := true) rfl (hb hby d1_11) rfl (decide_eq_true (congrArg Value.ref hc4)) (by decide) (by decide) k) ?_
      refine own_go (A' := (T3.setTop (mkF m 19 #[.val (.ref r0)] [(.int (1 : Int32))]))) (fun t k => ?_) ?_
      · show Steps p.tables e below (T3.setTop (mkF m 14 #[.val (.ref r0)] [])) _
        refine XS.iconst X3.here hx rfl (hb hby d1_14) ?_
        show Steps p.tables e below (T3.setTop (mkF m 15 #[.val (.ref r0)] [(.int (1 : Int32))])) _
        refine XS.goto X3.here hx rfl (pc0 := 15) (pc' := 19) rfl (hb hby d1_15) (by decide) (by decide) ?_
        exact k
      obtain ⟨fs, hr, hrun, hended, hW, hsame⟩ := X3.leave (v := some (.int (1 : Int32))) (fun h => by rw [Bd.returns] at h; cases h)
      refine ⟨_, _, ?_, hrun, hended, _, _, rfl, ?_, ⟨_, rfl⟩, hW, hsame.mono (by decide) (by decide)⟩
      · show Steps p.tables e below (T3.setTop (mkF m 19 #[.val (.ref r0)] [(.int (1 : Int32))])) _
        exact retN X3 hx (t := .boolean) Bd.returns (by simp) (hb hby d1_19) hr
      · show Q1 Z r0 w_ELECTION w_HEARTBEAT w_LEAVE w_ANSWER w_COORDINATOR h0 n0 _ _ _
        exact ⟨(by rw [fd, if_neg hc2, if_pos hc4]), N0, e3⟩
    · -- hc4: no
      refine own_go (A' := (T3.setTop (mkF m 18 #[.val (.ref r0)] []))) (fun t k => Jvm.RoadKit.acmp (g := (mkF m 11 #[.val (.ref r0)] [(.ref w_LEAVE), (.ref r0)])) X3 hx rfl rfl rfl (pc0 := 11) (pc' := 18) (same := false) rfl (hb hby d1_11) rfl (decide_eq_false fun q => hc4 (Value.ref.inj q)) (by decide) (by decide) k) ?_
      refine own_go (A' := (T3.setTop (mkF m 19 #[.val (.ref r0)] [(.int (0 : Int32))]))) (fun t k => ?_) ?_
      · show Steps p.tables e below (T3.setTop (mkF m 18 #[.val (.ref r0)] [])) _
        refine XS.iconst X3.here hx rfl (hb hby d1_18) ?_
        exact k
      obtain ⟨fs, hr, hrun, hended, hW, hsame⟩ := X3.leave (v := some (.int (0 : Int32))) (fun h => by rw [Bd.returns] at h; cases h)
      refine ⟨_, _, ?_, hrun, hended, _, _, rfl, ?_, ⟨_, rfl⟩, hW, hsame.mono (by decide) (by decide)⟩
      · show Steps p.tables e below (T3.setTop (mkF m 19 #[.val (.ref r0)] [(.int (0 : Int32))])) _
        exact retN X3 hx (t := .boolean) Bd.returns (by simp) (hb hby d1_19) hr
      · show Q1 Z r0 w_ELECTION w_HEARTBEAT w_LEAVE w_ANSWER w_COORDINATOR h0 n0 _ _ _
        exact ⟨(by rw [fd, if_neg hc2, if_neg hc4]), N0, e3⟩
theorem pd_0 : parseMethodDescriptor "()Z" = some ⟨[], some .boolean⟩ := by decide +kernel
theorem pn_0 : plainName "com/example/ithaca/ithaca/election/MessageKindIsForDetectorPinLaw" = true := by first | (simp [plainName, overriddenIn]; done) | decide +kernel
theorem ef_0 (m : MethodId) (p0 : Int32) : entryFrame m #[(.int p0)] maxLocals = mkF m 0 #[.val (.int p0), .unset, .unset, .unset] [] := by first | (simp [entryFrame, mkF, argsToLocals, Value.category, maxLocals]; done) | rfl
def Q0 (Z : State) (p0 : Int32) (w_ELECTION : Addr) (w_HEARTBEAT : Addr) (w_LEAVE : Addr) (w_ANSWER : Addr) (w_COORDINATOR : Addr) (h0 : Heap) (n0 : Nat) (v : Option Value) (h : Heap) (L : List Loc) : Prop := v = some (.int (1 : Int32)) ∧ Fr n0 L
set_option maxRecDepth 65536 in
set_option maxHeartbeats 40000000 in
theorem rm0 (l : Launch) (Z : State) (a0 : Array Value) (hw : ∀ d ∈ tables_1, d.before a0 Z = true) (ws : List Jvm.Cond) (p0 : Int32) (w_ELECTION : Addr) (w_HEARTBEAT : Addr) (w_LEAVE : Addr) (w_ANSWER : Addr) (w_COORDINATOR : Addr) (h0 : Heap) (n0 : Nat) (Z0 : n0 ≤ h0.size) (S_ELECTION : Sta Z h0 "com/example/ithaca/ithaca/election/MessageKind" "ELECTION" "Lcom/example/ithaca/ithaca/election/MessageKind;" (.ref w_ELECTION)) (S_HEARTBEAT : Sta Z h0 "com/example/ithaca/ithaca/election/MessageKind" "HEARTBEAT" "Lcom/example/ithaca/ithaca/election/MessageKind;" (.ref w_HEARTBEAT)) (S_LEAVE : Sta Z h0 "com/example/ithaca/ithaca/election/MessageKind" "LEAVE" "Lcom/example/ithaca/ithaca/election/MessageKind;" (.ref w_LEAVE)) (S_ANSWER : Sta Z h0 "com/example/ithaca/ithaca/election/MessageKind" "ANSWER" "Lcom/example/ithaca/ithaca/election/MessageKind;" (.ref w_ANSWER)) (S_COORDINATOR : Sta Z h0 "com/example/ithaca/ithaca/election/MessageKind" "COORDINATOR" "Lcom/example/ithaca/ithaca/election/MessageKind;" (.ref w_COORDINATOR)) (E_ELECTION : Exa Z h0 w_ELECTION "com/example/ithaca/ithaca/election/MessageKind") (E_HEARTBEAT : Exa Z h0 w_HEARTBEAT "com/example/ithaca/ithaca/election/MessageKind") (E_LEAVE : Exa Z h0 w_LEAVE "com/example/ithaca/ithaca/election/MessageKind") (E_ANSWER : Exa Z h0 w_ANSWER "com/example/ithaca/ithaca/election/MessageKind") (E_COORDINATOR : Exa Z h0 w_COORDINATOR "com/example/ithaca/ithaca/election/MessageKind") (O_ELECTION_ordinal : Fld Z h0 w_ELECTION "java/lang/Enum" "ordinal" "I" (.int (0 : Int32))) (O_HEARTBEAT_ordinal : Fld Z h0 w_HEARTBEAT "java/lang/Enum" "ordinal" "I" (.int (3 : Int32))) (O_LEAVE_ordinal : Fld Z h0 w_LEAVE "java/lang/Enum" "ordinal" "I" (.int (4 : Int32))) (O_ANSWER_ordinal : Fld Z h0 w_ANSWER "java/lang/Enum" "ordinal" "I" (.int (1 : Int32))) (O_COORDINATOR_ordinal : Fld Z h0 w_COORDINATOR "java/lang/Enum" "ordinal" "I" (.int (2 : Int32))) :
    MetFree l x (head1 (Jvm.Cond.code x code maxLocals ret :: ws) room_1) (fun a U => a = #[(.int p0)] ∧ Z.Warmed39 U.vm ∧ U.heap = h0) (fun _ _ _ _ _ => True) (fun _ U o U' => ∃ v L, o = .returned v ∧ Q0 Z p0 w_ELECTION w_HEARTBEAT w_LEAVE w_ANSWER w_COORDINATOR h0 n0 v U'.heap L ∧ FrameEnd U o U' L room_1.cells room_1.slots) := by
  refine MetFree.of_bodySF (plainFor_of_name pn_0) hisR ?_
  intro p e s m args below meth c s₁ Bd hml0 hP hK
  obtain ⟨rfl, hZ, hh⟩ := hP
  have hx := Bd.exec
  have hby := Bd.bytes
  have hml : c.maxLocals = 4 := hml0
  have hown : s.vm.findClass "com/example/ithaca/ithaca/election/MessageKindIsForDetectorPinLaw" = some m.cls := findClass_of_methodNamed Bd.named
  have hnm := (name_of_methodNamed Bd.named Bd.method).1
  have X0 : Stand p l e room_1 s m #[(.int p0)] below meth c s₁ [] 0 0 := Stand.of_body Bd
  have e0 : s₁.heap = h0 := by rw [← hh, Bd.state]; rfl
  have N0 := Fr.nil n0
  refine own_go (A' := (s₁.setTop (mkF m 0 #[.val (.int p0), .unset, .unset, .unset] []))) (fun t k => castTop (ef_0 m p0) k) ?_
  refine own_go (A' := (s₁.setTop (mkF m 8 #[.val (.int p0), .val (.int ((p0 &&& (2147483647 : Int32)) % (5 : Int32))), .unset, .unset] [(.int ((p0 &&& (2147483647 : Int32)) % (5 : Int32)))]))) (fun t k => ?_) ?_
  · show Steps p.tables e below (s₁.setTop (mkF m 0 #[.val (.int p0), .unset, .unset, .unset] [])) _
    refine XS.iloadN X0.here hx rfl (hb hby at_0) rfl ?_
    show Steps p.tables e below (s₁.setTop (mkF m 1 #[.val (.int p0), .unset, .unset, .unset] [(.int p0)])) _
    refine X0.ldcInt hx hown (mvT hZ (hw _ (List.mem_of_getElem? (i := 0) rfl))) (g := (mkF m 1 #[.val (.int p0), .unset, .unset, .unset] [(.int p0)])) rfl (hb hby at_1) _ ?_
    show Steps p.tables e below (s₁.setTop (mkF m 3 #[.val (.int p0), .unset, .unset, .unset] [(.int (2147483647 : Int32)), (.int p0)])) _
    refine XS.iand X0.here hx rfl (hb hby at_3) rfl ?_
    show Steps p.tables e below (s₁.setTop (mkF m 4 #[.val (.int p0), .unset, .unset, .unset] [(.int (p0 &&& (2147483647 : Int32)))])) _
    refine XS.iconst X0.here hx rfl (hb hby at_4) ?_
    show Steps p.tables e below (s₁.setTop (mkF m 5 #[.val (.int p0), .unset, .unset, .unset] [(.int (5 : Int32)), (.int (p0 &&& (2147483647 : Int32)))])) _
    refine iremM X0 hx (g := (mkF m 5 #[.val (.int p0), .unset, .unset, .unset] [(.int (5 : Int32)), (.int (p0 &&& (2147483647 : Int32)))])) rfl (hb hby at_5) rfl (by decide) ?_
    show Steps p.tables e below (s₁.setTop (mkF m 6 #[.val (.int p0), .unset, .unset, .unset] [(.int ((p0 &&& (2147483647 : Int32)) % (5 : Int32)))])) _
    refine XS.istoreN X0.here hx rfl (hb hby at_6) rfl (l' := #[.val (.int p0), .val (.int ((p0 &&& (2147483647 : Int32)) % (5 : Int32))), .unset, .unset]) rfl ?_
    show Steps p.tables e below (s₁.setTop (mkF m 7 #[.val (.int p0), .val (.int ((p0 &&& (2147483647 : Int32)) % (5 : Int32))), .unset, .unset] [])) _
    refine XS.iloadN X0.here hx rfl (hb hby at_7) rfl ?_
    exact k
  by_cases hc5 : ((p0 &&& (2147483647 : Int32)) % (5 : Int32)) = (0 : Int32)
  · -- hc5: yes
    refine own_go (A' := (s₁.setTop (mkF m 11 #[.val (.int p0), .val (.int ((p0 &&& (2147483647 : Int32)) % (5 : Int32))), .unset, .unset] []))) (fun t k => XS.ifNo X0.here hx rfl (hb hby at_8) rfl ((if0 _ _).trans (teq hc5).2) k) ?_
    obtain ⟨T6, X6, e6, st6⟩ := getS2 X0 hx hZ hown (host := "") (Or.inl (hw _ (List.mem_of_getElem? (i := 1) rfl))) Via.refl e0 S_ELECTION (g := (mkF m 11 #[.val (.int p0), .val (.int ((p0 &&& (2147483647 : Int32)) % (5 : Int32))), .unset, .unset] [])) rfl (hb hby at_11)
    obtain ⟨cq7, kq7, q7a, q7b, q7c⟩ := isOf hZ e6 E_ELECTION
    obtain ⟨_, _, ⟨T7, L7, k7, n7⟩, -, X7, ⟨Lc7, hQ7, l7, y7, z7⟩, st7⟩ := X6.virtualBack hx (y := (⟨"com/example/ithaca/ithaca/election/MessageKind", "isForDetector", "()Z"⟩ : MethodName)) (z := (⟨"com/example/ithaca/ithaca/election/MessageKind", "isForDetector", "()Z"⟩ : MethodName)) hown (mvT hZ (hw _ (List.mem_of_getElem? (i := 4) rfl))) (mvT hZ (hw _ (List.mem_of_getElem? (i := 5) rfl))) (notFace_of_selects (args := #[]) (mvT hZ (hw _ (List.mem_of_getElem? (i := 7) rfl)))) (mvT hZ (hw _ (List.mem_of_getElem? (i := 7) rfl))) (mvT hZ (hw _ (List.mem_of_getElem? (i := 6) rfl))) (by decide) (backOf (W := 0) (rm1 l Z a0 hw [] w_ELECTION w_ELECTION w_HEARTBEAT w_LEAVE w_ANSWER w_COORDINATOR h0 n0 Z0 S_ELECTION S_HEARTBEAT S_LEAVE S_ANSWER S_COORDINATOR E_ELECTION E_HEARTBEAT E_LEAVE E_ANSWER E_COORDINATOR O_ELECTION_ordinal O_HEARTBEAT_ordinal O_LEAVE_ordinal O_ANSWER_ordinal O_COORDINATOR_ordinal) hZ (hw _ (List.mem_of_getElem? (i := 8) rfl)) (hw _ (List.mem_of_getElem? (i := 2) rfl)) (by decide) (by decide)) q7a q7c (g := (mkF m 69 #[.val (.int p0), .val (.int ((p0 &&& (2147483647 : Int32)) % (5 : Int32))), .val (.ref w_ELECTION), .val (.int (0 : Int32))] [(.ref w_ELECTION)])) rfl (by rw [hml]; rfl) (Steps.refl _) (argsL := []) (rest := []) (lenOf pd_0 rfl) rfl (by show 2 * 0 + _ ≤ _; exact Nat.le_of_eq rfl) (hb hby at_69) (fun _ _ => ⟨rfl, e6, (by decide : 0 + 0 ≤ _), (by decide : 0 + 0 ≤ _)⟩)
    dsimp only [Pt.U, Pt.locs, Pt.cells, Pt.slots] at X7 l7 y7 z7 st7 hQ7
    subst l7 y7 z7
    obtain ⟨rfl, N7q, e7⟩ := hQ7
    have N7 := Fr.app N0 N7q
    refine own_go (A' := (T7.setTop (mkF m 73 #[.val (.int p0), .val (.int ((p0 &&& (2147483647 : Int32)) % (5 : Int32))), .val (.ref w_ELECTION), .val (.int (0 : Int32))] [(.int (0 : Int32)), (.int (fd w_HEARTBEAT w_LEAVE w_ELECTION))]))) (fun t k => ?_) ?_
    · show Steps p.tables e below (s₁.setTop (mkF m 11 #[.val (.int p0), .val (.int ((p0 &&& (2147483647 : Int32)) % (5 : Int32))), .unset, .unset] [])) _
      refine st6 _ ?_
      show Steps p.tables e below (T6.setTop (mkF m 14 #[.val (.int p0), .val (.int ((p0 &&& (2147483647 : Int32)) % (5 : Int32))), .unset, .unset] [(.ref w_ELECTION)])) _
      refine XS.astoreN X6.here hx rfl (hb hby at_14) rfl rfl (l' := #[.val (.int p0), .val (.int ((p0 &&& (2147483647 : Int32)) % (5 : Int32))), .val (.ref w_ELECTION), .unset]) rfl ?_
      show Steps p.tables e below (T6.setTop (mkF m 15 #[.val (.int p0), .val (.int ((p0 &&& (2147483647 : Int32)) % (5 : Int32))), .val (.ref w_ELECTION), .unset] [])) _
      refine XS.iconst X6.here hx rfl (hb hby at_15) ?_
      show Steps p.tables e below (T6.setTop (mkF m 16 #[.val (.int p0), .val (.int ((p0 &&& (2147483647 : Int32)) % (5 : Int32))), .val (.ref w_ELECTION), .unset] [(.int (0 : Int32))])) _
      refine XS.istoreN X6.here hx rfl (hb hby at_16) rfl (l' := #[.val (.int p0), .val (.int ((p0 &&& (2147483647 : Int32)) % (5 : Int32))), .val (.ref w_ELECTION), .val (.int (0 : Int32))]) rfl ?_
      show Steps p.tables e below (T6.setTop (mkF m 17 #[.val (.int p0), .val (.int ((p0 &&& (2147483647 : Int32)) % (5 : Int32))), .val (.ref w_ELECTION), .val (.int (0 : Int32))] [])) _
      refine XS.goto X6.here hx rfl (pc0 := 17) (pc' := 68) rfl (hb hby at_17) (by decide) (by decide) ?_
      show Steps p.tables e below (T6.setTop (mkF m 68 #[.val (.int p0), .val (.int ((p0 &&& (2147483647 : Int32)) % (5 : Int32))), .val (.ref w_ELECTION), .val (.int (0 : Int32))] [])) _
      refine XS.aloadN X6.here hx rfl (hb hby at_68) rfl rfl ?_
      show Steps p.tables e below (T6.setTop (mkF m 69 #[.val (.int p0), .val (.int ((p0 &&& (2147483647 : Int32)) % (5 : Int32))), .val (.ref w_ELECTION), .val (.int (0 : Int32))] [(.ref w_ELECTION)])) _
      refine st7.trans ?_
      show Steps p.tables e below (T7.setTop (mkF m 72 #[.val (.int p0), .val (.int ((p0 &&& (2147483647 : Int32)) % (5 : Int32))), .val (.ref w_ELECTION), .val (.int (0 : Int32))] [(.int (fd w_HEARTBEAT w_LEAVE w_ELECTION))])) _
      refine XS.iloadN X7.here hx rfl (hb hby at_72) rfl ?_
      exact k
    refine own_go (A' := (T7.setTop (mkF m 76 #[.val (.int p0), .val (.int ((p0 &&& (2147483647 : Int32)) % (5 : Int32))), .val (.ref w_ELECTION), .val (.int (0 : Int32))] []))) (fun t k => XS.icmpNo X7.here hx rfl (hb hby at_73) rfl (teq (by simp [fd, own_fld_ne O_ELECTION_ordinal O_HEARTBEAT_ordinal (by decide), own_fld_ne O_ELECTION_ordinal O_LEAVE_ordinal (by decide)])).2 k) ?_
    refine own_go (A' := (T7.setTop (mkF m 81 #[.val (.int p0), .val (.int ((p0 &&& (2147483647 : Int32)) % (5 : Int32))), .val (.ref w_ELECTION), .val (.int (0 : Int32))] [(.int (1 : Int32))]))) (fun t k => ?_) ?_
    · show Steps p.tables e below (T7.setTop (mkF m 76 #[.val (.int p0), .val (.int ((p0 &&& (2147483647 : Int32)) % (5 : Int32))), .val (.ref w_ELECTION), .val (.int (0 : Int32))] [])) _
      refine XS.iconst X7.here hx rfl (hb hby at_76) ?_
      show Steps p.tables e below (T7.setTop (mkF m 77 #[.val (.int p0), .val (.int ((p0 &&& (2147483647 : Int32)) % (5 : Int32))), .val (.ref w_ELECTION), .val (.int (0 : Int32))] [(.int (1 : Int32))])) _
      refine XS.goto X7.here hx rfl (pc0 := 77) (pc' := 81) rfl (hb hby at_77) (by decide) (by decide) ?_
      exact k
    obtain ⟨fs, hr, hrun, hended, hW, hsame⟩ := X7.leave (v := some (.int (1 : Int32))) (fun h => by rw [Bd.returns] at h; cases h)
    refine ⟨_, _, ?_, hrun, hended, _, _, rfl, ?_, ⟨_, rfl⟩, hW, hsame.mono (by decide) (by decide)⟩
    · show Steps p.tables e below (T7.setTop (mkF m 81 #[.val (.int p0), .val (.int ((p0 &&& (2147483647 : Int32)) % (5 : Int32))), .val (.ref w_ELECTION), .val (.int (0 : Int32))] [(.int (1 : Int32))])) _
      exact retN X7 hx (t := .boolean) Bd.returns (by simp) (hb hby at_81) hr
    · show Q0 Z p0 w_ELECTION w_HEARTBEAT w_LEAVE w_ANSWER w_COORDINATOR h0 n0 _ _ _
      exact ⟨rfl, N7⟩
  · -- hc5: no
    refine own_go (A' := (s₁.setTop (mkF m 20 #[.val (.int p0), .val (.int ((p0 &&& (2147483647 : Int32)) % (5 : Int32))), .unset, .unset] []))) (fun t k => XS.ifYes X0.here hx rfl (pc0 := 8) (pc' := 20) rfl (hb hby at_8) rfl ((if0 _ _).trans (feq hc5).2) (by decide) (by decide) k) ?_
    refine own_go (A' := (s₁.setTop (mkF m 22 #[.val (.int p0), .val (.int ((p0 &&& (2147483647 : Int32)) % (5 : Int32))), .unset, .unset] [(.int (1 : Int32)), (.int ((p0 &&& (2147483647 : Int32)) % (5 : Int32)))]))) (fun t k => ?_) ?_
    · show Steps p.tables e below (s₁.setTop (mkF m 20 #[.val (.int p0), .val (.int ((p0 &&& (2147483647 : Int32)) % (5 : Int32))), .unset, .unset] [])) _
      refine XS.iloadN X0.here hx rfl (hb hby at_20) rfl ?_
      show Steps p.tables e below (s₁.setTop (mkF m 21 #[.val (.int p0), .val (.int ((p0 &&& (2147483647 : Int32)) % (5 : Int32))), .unset, .unset] [(.int ((p0 &&& (2147483647 : Int32)) % (5 : Int32)))])) _
      refine XS.iconst X0.here hx rfl (hb hby at_21) ?_
      exact k
    by_cases hc8 : ((p0 &&& (2147483647 : Int32)) % (5 : Int32)) = (1 : Int32)
    · -- hc8: yes
      refine own_go (A' := (s₁.setTop (mkF m 25 #[.val (.int p0), .val (.int ((p0 &&& (2147483647 : Int32)) % (5 : Int32))), .unset, .unset] []))) (fun t k => XS.icmpNo X0.here hx rfl (hb hby at_22) rfl (teq hc8).2 k) ?_
      obtain ⟨T9, X9, e9, st9⟩ := getS2 X0 hx hZ hown (host := "") (Or.inl (hw _ (List.mem_of_getElem? (i := 14) rfl))) Via.refl e0 S_ANSWER (g := (mkF m 25 #[.val (.int p0), .val (.int ((p0 &&& (2147483647 : Int32)) % (5 : Int32))), .unset, .unset] [])) rfl (hb hby at_25)
      obtain ⟨cq10, kq10, q10a, q10b, q10c⟩ := isOf hZ e9 E_ANSWER
      obtain ⟨_, _, ⟨T10, L10, k10, n10⟩, -, X10, ⟨Lc10, hQ10, l10, y10, z10⟩, st10⟩ := X9.virtualBack hx (y := (⟨"com/example/ithaca/ithaca/election/MessageKind", "isForDetector", "()Z"⟩ : MethodName)) (z := (⟨"com/example/ithaca/ithaca/election/MessageKind", "isForDetector", "()Z"⟩ : MethodName)) hown (mvT hZ (hw _ (List.mem_of_getElem? (i := 4) rfl))) (mvT hZ (hw _ (List.mem_of_getElem? (i := 5) rfl))) (notFace_of_selects (args := #[]) (mvT hZ (hw _ (List.mem_of_getElem? (i := 7) rfl)))) (mvT hZ (hw _ (List.mem_of_getElem? (i := 7) rfl))) (mvT hZ (hw _ (List.mem_of_getElem? (i := 6) rfl))) (by decide) (backOf (W := 0) (rm1 l Z a0 hw [] w_ANSWER w_ELECTION w_HEARTBEAT w_LEAVE w_ANSWER w_COORDINATOR h0 n0 Z0 S_ELECTION S_HEARTBEAT S_LEAVE S_ANSWER S_COORDINATOR E_ELECTION E_HEARTBEAT E_LEAVE E_ANSWER E_COORDINATOR O_ELECTION_ordinal O_HEARTBEAT_ordinal O_LEAVE_ordinal O_ANSWER_ordinal O_COORDINATOR_ordinal) hZ (hw _ (List.mem_of_getElem? (i := 8) rfl)) (hw _ (List.mem_of_getElem? (i := 2) rfl)) (by decide) (by decide)) q10a q10c (g := (mkF m 69 #[.val (.int p0), .val (.int ((p0 &&& (2147483647 : Int32)) % (5 : Int32))), .val (.ref w_ANSWER), .val (.int (0 : Int32))] [(.ref w_ANSWER)])) rfl (by rw [hml]; rfl) (Steps.refl _) (argsL := []) (rest := []) (lenOf pd_0 rfl) rfl (by show 2 * 0 + _ ≤ _; exact Nat.le_of_eq rfl) (hb hby at_69) (fun _ _ => ⟨rfl, e9, (by decide : 0 + 0 ≤ _), (by decide : 0 + 0 ≤ _)⟩)
      dsimp only [Pt.U, Pt.locs, Pt.cells, Pt.slots] at X10 l10 y10 z10 st10 hQ10
      subst l10 y10 z10
      obtain ⟨rfl, N10q, e10⟩ := hQ10
      have N10 := Fr.app N0 N10q
      refine own_go (A' := (T10.setTop (mkF m 73 #[.val (.int p0), .val (.int ((p0 &&& (2147483647 : Int32)) % (5 : Int32))), .val (.ref w_ANSWER), .val (.int (0 : Int32))] [(.int (0 : Int32)), (.int (fd w_HEARTBEAT w_LEAVE w_ANSWER))]))) (fun t k => ?_) ?_
      · show Steps p.tables e below (s₁.setTop (mkF m 25 #[.val (.int p0), .val (.int ((p0 &&& (2147483647 : Int32)) % (5 : Int32))), .unset, .unset] [])) _
        refine st9 _ ?_
        show Steps p.tables e below (T9.setTop (mkF m 28 #[.val (.int p0), .val (.int ((p0 &&& (2147483647 : Int32)) % (5 : Int32))), .unset, .unset] [(.ref w_ANSWER)])) _
        refine XS.astoreN X9.here hx rfl (hb hby at_28) rfl rfl (l' := #[.val (.int p0), .val (.int ((p0 &&& (2147483647 : Int32)) % (5 : Int32))), .val (.ref w_ANSWER), .unset]) rfl ?_
        show Steps p.tables e below (T9.setTop (mkF m 29 #[.val (.int p0), .val (.int ((p0 &&& (2147483647 : Int32)) % (5 : Int32))), .val (.ref w_ANSWER), .unset] [])) _
        refine XS.iconst X9.here hx rfl (hb hby at_29) ?_
        show Steps p.tables e below (T9.setTop (mkF m 30 #[.val (.int p0), .val (.int ((p0 &&& (2147483647 : Int32)) % (5 : Int32))), .val (.ref w_ANSWER), .unset] [(.int (0 : Int32))])) _
        refine XS.istoreN X9.here hx rfl (hb hby at_30) rfl (l' := #[.val (.int p0), .val (.int ((p0 &&& (2147483647 : Int32)) % (5 : Int32))), .val (.ref w_ANSWER), .val (.int (0 : Int32))]) rfl ?_
        show Steps p.tables e below (T9.setTop (mkF m 31 #[.val (.int p0), .val (.int ((p0 &&& (2147483647 : Int32)) % (5 : Int32))), .val (.ref w_ANSWER), .val (.int (0 : Int32))] [])) _
        refine XS.goto X9.here hx rfl (pc0 := 31) (pc' := 68) rfl (hb hby at_31) (by decide) (by decide) ?_
        show Steps p.tables e below (T9.setTop (mkF m 68 #[.val (.int p0), .val (.int ((p0 &&& (2147483647 : Int32)) % (5 : Int32))), .val (.ref w_ANSWER), .val (.int (0 : Int32))] [])) _
        refine XS.aloadN X9.here hx rfl (hb hby at_68) rfl rfl ?_
        show Steps p.tables e below (T9.setTop (mkF m 69 #[.val (.int p0), .val (.int ((p0 &&& (2147483647 : Int32)) % (5 : Int32))), .val (.ref w_ANSWER), .val (.int (0 : Int32))] [(.ref w_ANSWER)])) _
        refine st10.trans ?_
        show Steps p.tables e below (T10.setTop (mkF m 72 #[.val (.int p0), .val (.int ((p0 &&& (2147483647 : Int32)) % (5 : Int32))), .val (.ref w_ANSWER), .val (.int (0 : Int32))] [(.int (fd w_HEARTBEAT w_LEAVE w_ANSWER))])) _
        refine XS.iloadN X10.here hx rfl (hb hby at_72) rfl ?_
        exact k
      refine own_go (A' := (T10.setTop (mkF m 76 #[.val (.int p0), .val (.int ((p0 &&& (2147483647 : Int32)) % (5 : Int32))), .val (.ref w_ANSWER), .val (.int (0 : Int32))] []))) (fun t k => XS.icmpNo X10.here hx rfl (hb hby at_73) rfl (teq (by simp [fd, own_fld_ne O_ANSWER_ordinal O_HEARTBEAT_ordinal (by decide), own_fld_ne O_ANSWER_ordinal O_LEAVE_ordinal (by decide)])).2 k) ?_
      refine own_go (A' := (T10.setTop (mkF m 81 #[.val (.int p0), .val (.int ((p0 &&& (2147483647 : Int32)) % (5 : Int32))), .val (.ref w_ANSWER), .val (.int (0 : Int32))] [(.int (1 : Int32))]))) (fun t k => ?_) ?_
      · show Steps p.tables e below (T10.setTop (mkF m 76 #[.val (.int p0), .val (.int ((p0 &&& (2147483647 : Int32)) % (5 : Int32))), .val (.ref w_ANSWER), .val (.int (0 : Int32))] [])) _
        refine XS.iconst X10.here hx rfl (hb hby at_76) ?_
        show Steps p.tables e below (T10.setTop (mkF m 77 #[.val (.int p0), .val (.int ((p0 &&& (2147483647 : Int32)) % (5 : Int32))), .val (.ref w_ANSWER), .val (.int (0 : Int32))] [(.int (1 : Int32))])) _
        refine XS.goto X10.here hx rfl (pc0 := 77) (pc' := 81) rfl (hb hby at_77) (by decide) (by decide) ?_
        exact k
      obtain ⟨fs, hr, hrun, hended, hW, hsame⟩ := X10.leave (v := some (.int (1 : Int32))) (fun h => by rw [Bd.returns] at h; cases h)
      refine ⟨_, _, ?_, hrun, hended, _, _, rfl, ?_, ⟨_, rfl⟩, hW, hsame.mono (by decide) (by decide)⟩
      · show Steps p.tables e below (T10.setTop (mkF m 81 #[.val (.int p0), .val (.int ((p0 &&& (2147483647 : Int32)) % (5 : Int32))), .val (.ref w_ANSWER), .val (.int (0 : Int32))] [(.int (1 : Int32))])) _
        exact retN X10 hx (t := .boolean) Bd.returns (by simp) (hb hby at_81) hr
      · show Q0 Z p0 w_ELECTION w_HEARTBEAT w_LEAVE w_ANSWER w_COORDINATOR h0 n0 _ _ _
        exact ⟨rfl, N10⟩
    · -- hc8: no
      refine own_go (A' := (s₁.setTop (mkF m 34 #[.val (.int p0), .val (.int ((p0 &&& (2147483647 : Int32)) % (5 : Int32))), .unset, .unset] []))) (fun t k => XS.icmpYes X0.here hx rfl (pc0 := 22) (pc' := 34) rfl (hb hby at_22) rfl (feq hc8).2 (by decide) (by decide) k) ?_
      refine own_go (A' := (s₁.setTop (mkF m 36 #[.val (.int p0), .val (.int ((p0 &&& (2147483647 : Int32)) % (5 : Int32))), .unset, .unset] [(.int (2 : Int32)), (.int ((p0 &&& (2147483647 : Int32)) % (5 : Int32)))]))) (fun t k => ?_) ?_
      · show Steps p.tables e below (s₁.setTop (mkF m 34 #[.val (.int p0), .val (.int ((p0 &&& (2147483647 : Int32)) % (5 : Int32))), .unset, .unset] [])) _
        refine XS.iloadN X0.here hx rfl (hb hby at_34) rfl ?_
        show Steps p.tables e below (s₁.setTop (mkF m 35 #[.val (.int p0), .val (.int ((p0 &&& (2147483647 : Int32)) % (5 : Int32))), .unset, .unset] [(.int ((p0 &&& (2147483647 : Int32)) % (5 : Int32)))])) _
        refine XS.iconst X0.here hx rfl (hb hby at_35) ?_
        exact k
      by_cases hc11 : ((p0 &&& (2147483647 : Int32)) % (5 : Int32)) = (2 : Int32)
      · -- hc11: yes
        refine own_go (A' := (s₁.setTop (mkF m 39 #[.val (.int p0), .val (.int ((p0 &&& (2147483647 : Int32)) % (5 : Int32))), .unset, .unset] []))) (fun t k => XS.icmpNo X0.here hx rfl (hb hby at_36) rfl (teq hc11).2 k) ?_
        obtain ⟨T12, X12, e12, st12⟩ := getS2 X0 hx hZ hown (host := "") (Or.inl (hw _ (List.mem_of_getElem? (i := 17) rfl))) Via.refl e0 S_COORDINATOR (g := (mkF m 39 #[.val (.int p0), .val (.int ((p0 &&& (2147483647 : Int32)) % (5 : Int32))), .unset, .unset] [])) rfl (hb hby at_39)
        obtain ⟨cq13, kq13, q13a, q13b, q13c⟩ := isOf hZ e12 E_COORDINATOR
        obtain ⟨_, _, ⟨T13, L13, k13, n13⟩, -, X13, ⟨Lc13, hQ13, l13, y13, z13⟩, st13⟩ := X12.virtualBack hx (y := (⟨"com/example/ithaca/ithaca/election/MessageKind", "isForDetector", "()Z"⟩ : MethodName)) (z := (⟨"com/example/ithaca/ithaca/election/MessageKind", "isForDetector", "()Z"⟩ : MethodName)) hown (mvT hZ (hw _ (List.mem_of_getElem? (i := 4) rfl))) (mvT hZ (hw _ (List.mem_of_getElem? (i := 5) rfl))) (notFace_of_selects (args := #[]) (mvT hZ (hw _ (List.mem_of_getElem? (i := 7) rfl)))) (mvT hZ (hw _ (List.mem_of_getElem? (i := 7) rfl))) (mvT hZ (hw _ (List.mem_of_getElem? (i := 6) rfl))) (by decide) (backOf (W := 0) (rm1 l Z a0 hw [] w_COORDINATOR w_ELECTION w_HEARTBEAT w_LEAVE w_ANSWER w_COORDINATOR h0 n0 Z0 S_ELECTION S_HEARTBEAT S_LEAVE S_ANSWER S_COORDINATOR E_ELECTION E_HEARTBEAT E_LEAVE E_ANSWER E_COORDINATOR O_ELECTION_ordinal O_HEARTBEAT_ordinal O_LEAVE_ordinal O_ANSWER_ordinal O_COORDINATOR_ordinal) hZ (hw _ (List.mem_of_getElem? (i := 8) rfl)) (hw _ (List.mem_of_getElem? (i := 2) rfl)) (by decide) (by decide)) q13a q13c (g := (mkF m 69 #[.val (.int p0), .val (.int ((p0 &&& (2147483647 : Int32)) % (5 : Int32))), .val (.ref w_COORDINATOR), .val (.int (0 : Int32))] [(.ref w_COORDINATOR)])) rfl (by rw [hml]; rfl) (Steps.refl _) (argsL := []) (rest := []) (lenOf pd_0 rfl) rfl (by show 2 * 0 + _ ≤ _; exact Nat.le_of_eq rfl) (hb hby at_69) (fun _ _ => ⟨rfl, e12, (by decide : 0 + 0 ≤ _), (by decide : 0 + 0 ≤ _)⟩)
        dsimp only [Pt.U, Pt.locs, Pt.cells, Pt.slots] at X13 l13 y13 z13 st13 hQ13
        subst l13 y13 z13
        obtain ⟨rfl, N13q, e13⟩ := hQ13
        have N13 := Fr.app N0 N13q
        refine own_go (A' := (T13.setTop (mkF m 73 #[.val (.int p0), .val (.int ((p0 &&& (2147483647 : Int32)) % (5 : Int32))), .val (.ref w_COORDINATOR), .val (.int (0 : Int32))] [(.int (0 : Int32)), (.int (fd w_HEARTBEAT w_LEAVE w_COORDINATOR))]))) (fun t k => ?_) ?_
        · show Steps p.tables e below (s₁.setTop (mkF m 39 #[.val (.int p0), .val (.int ((p0 &&& (2147483647 : Int32)) % (5 : Int32))), .unset, .unset] [])) _
          refine st12 _ ?_
          show Steps p.tables e below (T12.setTop (mkF m 42 #[.val (.int p0), .val (.int ((p0 &&& (2147483647 : Int32)) % (5 : Int32))), .unset, .unset] [(.ref w_COORDINATOR)])) _
          refine XS.astoreN X12.here hx rfl (hb hby at_42) rfl rfl (l' := #[.val (.int p0), .val (.int ((p0 &&& (2147483647 : Int32)) % (5 : Int32))), .val (.ref w_COORDINATOR), .unset]) rfl ?_
          show Steps p.tables e below (T12.setTop (mkF m 43 #[.val (.int p0), .val (.int ((p0 &&& (2147483647 : Int32)) % (5 : Int32))), .val (.ref w_COORDINATOR), .unset] [])) _
          refine XS.iconst X12.here hx rfl (hb hby at_43) ?_
          show Steps p.tables e below (T12.setTop (mkF m 44 #[.val (.int p0), .val (.int ((p0 &&& (2147483647 : Int32)) % (5 : Int32))), .val (.ref w_COORDINATOR), .unset] [(.int (0 : Int32))])) _
          refine XS.istoreN X12.here hx rfl (hb hby at_44) rfl (l' := #[.val (.int p0), .val (.int ((p0 &&& (2147483647 : Int32)) % (5 : Int32))), .val (.ref w_COORDINATOR), .val (.int (0 : Int32))]) rfl ?_
          show Steps p.tables e below (T12.setTop (mkF m 45 #[.val (.int p0), .val (.int ((p0 &&& (2147483647 : Int32)) % (5 : Int32))), .val (.ref w_COORDINATOR), .val (.int (0 : Int32))] [])) _
          refine XS.goto X12.here hx rfl (pc0 := 45) (pc' := 68) rfl (hb hby at_45) (by decide) (by decide) ?_
          show Steps p.tables e below (T12.setTop (mkF m 68 #[.val (.int p0), .val (.int ((p0 &&& (2147483647 : Int32)) % (5 : Int32))), .val (.ref w_COORDINATOR), .val (.int (0 : Int32))] [])) _
          refine XS.aloadN X12.here hx rfl (hb hby at_68) rfl rfl ?_
          show Steps p.tables e below (T12.setTop (mkF m 69 #[.val (.int p0), .val (.int ((p0 &&& (2147483647 : Int32)) % (5 : Int32))), .val (.ref w_COORDINATOR), .val (.int (0 : Int32))] [(.ref w_COORDINATOR)])) _
          refine st13.trans ?_
          show Steps p.tables e below (T13.setTop (mkF m 72 #[.val (.int p0), .val (.int ((p0 &&& (2147483647 : Int32)) % (5 : Int32))), .val (.ref w_COORDINATOR), .val (.int (0 : Int32))] [(.int (fd w_HEARTBEAT w_LEAVE w_COORDINATOR))])) _
          refine XS.iloadN X13.here hx rfl (hb hby at_72) rfl ?_
          exact k
        refine own_go (A' := (T13.setTop (mkF m 76 #[.val (.int p0), .val (.int ((p0 &&& (2147483647 : Int32)) % (5 : Int32))), .val (.ref w_COORDINATOR), .val (.int (0 : Int32))] []))) (fun t k => XS.icmpNo X13.here hx rfl (hb hby at_73) rfl (teq (by simp [fd, own_fld_ne O_COORDINATOR_ordinal O_HEARTBEAT_ordinal (by decide), own_fld_ne O_COORDINATOR_ordinal O_LEAVE_ordinal (by decide)])).2 k) ?_
        refine own_go (A' := (T13.setTop (mkF m 81 #[.val (.int p0), .val (.int ((p0 &&& (2147483647 : Int32)) % (5 : Int32))), .val (.ref w_COORDINATOR), .val (.int (0 : Int32))] [(.int (1 : Int32))]))) (fun t k => ?_) ?_
        · show Steps p.tables e below (T13.setTop (mkF m 76 #[.val (.int p0), .val (.int ((p0 &&& (2147483647 : Int32)) % (5 : Int32))), .val (.ref w_COORDINATOR), .val (.int (0 : Int32))] [])) _
          refine XS.iconst X13.here hx rfl (hb hby at_76) ?_
          show Steps p.tables e below (T13.setTop (mkF m 77 #[.val (.int p0), .val (.int ((p0 &&& (2147483647 : Int32)) % (5 : Int32))), .val (.ref w_COORDINATOR), .val (.int (0 : Int32))] [(.int (1 : Int32))])) _
          refine XS.goto X13.here hx rfl (pc0 := 77) (pc' := 81) rfl (hb hby at_77) (by decide) (by decide) ?_
          exact k
        obtain ⟨fs, hr, hrun, hended, hW, hsame⟩ := X13.leave (v := some (.int (1 : Int32))) (fun h => by rw [Bd.returns] at h; cases h)
        refine ⟨_, _, ?_, hrun, hended, _, _, rfl, ?_, ⟨_, rfl⟩, hW, hsame.mono (by decide) (by decide)⟩
        · show Steps p.tables e below (T13.setTop (mkF m 81 #[.val (.int p0), .val (.int ((p0 &&& (2147483647 : Int32)) % (5 : Int32))), .val (.ref w_COORDINATOR), .val (.int (0 : Int32))] [(.int (1 : Int32))])) _
          exact retN X13 hx (t := .boolean) Bd.returns (by simp) (hb hby at_81) hr
        · show Q0 Z p0 w_ELECTION w_HEARTBEAT w_LEAVE w_ANSWER w_COORDINATOR h0 n0 _ _ _
          exact ⟨rfl, N13⟩
      · -- hc11: no
        refine own_go (A' := (s₁.setTop (mkF m 48 #[.val (.int p0), .val (.int ((p0 &&& (2147483647 : Int32)) % (5 : Int32))), .unset, .unset] []))) (fun t k => XS.icmpYes X0.here hx rfl (pc0 := 36) (pc' := 48) rfl (hb hby at_36) rfl (feq hc11).2 (by decide) (by decide) k) ?_
        refine own_go (A' := (s₁.setTop (mkF m 50 #[.val (.int p0), .val (.int ((p0 &&& (2147483647 : Int32)) % (5 : Int32))), .unset, .unset] [(.int (3 : Int32)), (.int ((p0 &&& (2147483647 : Int32)) % (5 : Int32)))]))) (fun t k => ?_) ?_
        · show Steps p.tables e below (s₁.setTop (mkF m 48 #[.val (.int p0), .val (.int ((p0 &&& (2147483647 : Int32)) % (5 : Int32))), .unset, .unset] [])) _
          refine XS.iloadN X0.here hx rfl (hb hby at_48) rfl ?_
          show Steps p.tables e below (s₁.setTop (mkF m 49 #[.val (.int p0), .val (.int ((p0 &&& (2147483647 : Int32)) % (5 : Int32))), .unset, .unset] [(.int ((p0 &&& (2147483647 : Int32)) % (5 : Int32)))])) _
          refine XS.iconst X0.here hx rfl (hb hby at_49) ?_
          exact k
        by_cases hc14 : ((p0 &&& (2147483647 : Int32)) % (5 : Int32)) = (3 : Int32)
        · -- hc14: yes
          refine own_go (A' := (s₁.setTop (mkF m 53 #[.val (.int p0), .val (.int ((p0 &&& (2147483647 : Int32)) % (5 : Int32))), .unset, .unset] []))) (fun t k => XS.icmpNo X0.here hx rfl (hb hby at_50) rfl (teq hc14).2 k) ?_
          obtain ⟨T15, X15, e15, st15⟩ := getS2 X0 hx hZ hown (host := "") (Or.inl (hw _ (List.mem_of_getElem? (i := 13) rfl))) Via.refl e0 S_HEARTBEAT (g := (mkF m 53 #[.val (.int p0), .val (.int ((p0 &&& (2147483647 : Int32)) % (5 : Int32))), .unset, .unset] [])) rfl (hb hby at_53)
          obtain ⟨cq16, kq16, q16a, q16b, q16c⟩ := isOf hZ e15 E_HEARTBEAT
          obtain ⟨_, _, ⟨T16, L16, k16, n16⟩, -, X16, ⟨Lc16, hQ16, l16, y16, z16⟩, st16⟩ := X15.virtualBack hx (y := (⟨"com/example/ithaca/ithaca/election/MessageKind", "isForDetector", "()Z"⟩ : MethodName)) (z := (⟨"com/example/ithaca/ithaca/election/MessageKind", "isForDetector", "()Z"⟩ : MethodName)) hown (mvT hZ (hw _ (List.mem_of_getElem? (i := 4) rfl))) (mvT hZ (hw _ (List.mem_of_getElem? (i := 5) rfl))) (notFace_of_selects (args := #[]) (mvT hZ (hw _ (List.mem_of_getElem? (i := 7) rfl)))) (mvT hZ (hw _ (List.mem_of_getElem? (i := 7) rfl))) (mvT hZ (hw _ (List.mem_of_getElem? (i := 6) rfl))) (by decide) (backOf (W := 0) (rm1 l Z a0 hw [] w_HEARTBEAT w_ELECTION w_HEARTBEAT w_LEAVE w_ANSWER w_COORDINATOR h0 n0 Z0 S_ELECTION S_HEARTBEAT S_LEAVE S_ANSWER S_COORDINATOR E_ELECTION E_HEARTBEAT E_LEAVE E_ANSWER E_COORDINATOR O_ELECTION_ordinal O_HEARTBEAT_ordinal O_LEAVE_ordinal O_ANSWER_ordinal O_COORDINATOR_ordinal) hZ (hw _ (List.mem_of_getElem? (i := 8) rfl)) (hw _ (List.mem_of_getElem? (i := 2) rfl)) (by decide) (by decide)) q16a q16c (g := (mkF m 69 #[.val (.int p0), .val (.int ((p0 &&& (2147483647 : Int32)) % (5 : Int32))), .val (.ref w_HEARTBEAT), .val (.int (1 : Int32))] [(.ref w_HEARTBEAT)])) rfl (by rw [hml]; rfl) (Steps.refl _) (argsL := []) (rest := []) (lenOf pd_0 rfl) rfl (by show 2 * 0 + _ ≤ _; exact Nat.le_of_eq rfl) (hb hby at_69) (fun _ _ => ⟨rfl, e15, (by decide : 0 + 0 ≤ _), (by decide : 0 + 0 ≤ _)⟩)
          dsimp only [Pt.U, Pt.locs, Pt.cells, Pt.slots] at X16 l16 y16 z16 st16 hQ16
          subst l16 y16 z16
          obtain ⟨rfl, N16q, e16⟩ := hQ16
          have N16 := Fr.app N0 N16q
          refine own_go (A' := (T16.setTop (mkF m 73 #[.val (.int p0), .val (.int ((p0 &&& (2147483647 : Int32)) % (5 : Int32))), .val (.ref w_HEARTBEAT), .val (.int (1 : Int32))] [(.int (1 : Int32)), (.int (fd w_HEARTBEAT w_LEAVE w_HEARTBEAT))]))) (fun t k => ?_) ?_
          · show Steps p.tables e below (s₁.setTop (mkF m 53 #[.val (.int p0), .val (.int ((p0 &&& (2147483647 : Int32)) % (5 : Int32))), .unset, .unset] [])) _
            refine st15 _ ?_
            show Steps p.tables e below (T15.setTop (mkF m 56 #[.val (.int p0), .val (.int ((p0 &&& (2147483647 : Int32)) % (5 : Int32))), .unset, .unset] [(.ref w_HEARTBEAT)])) _
            refine XS.astoreN X15.here hx rfl (hb hby at_56) rfl rfl (l' := #[.val (.int p0), .val (.int ((p0 &&& (2147483647 : Int32)) % (5 : Int32))), .val (.ref w_HEARTBEAT), .unset]) rfl ?_
            show Steps p.tables e below (T15.setTop (mkF m 57 #[.val (.int p0), .val (.int ((p0 &&& (2147483647 : Int32)) % (5 : Int32))), .val (.ref w_HEARTBEAT), .unset] [])) _
            refine XS.iconst X15.here hx rfl (hb hby at_57) ?_
            show Steps p.tables e below (T15.setTop (mkF m 58 #[.val (.int p0), .val (.int ((p0 &&& (2147483647 : Int32)) % (5 : Int32))), .val (.ref w_HEARTBEAT), .unset] [(.int (1 : Int32))])) _
            refine XS.istoreN X15.here hx rfl (hb hby at_58) rfl (l' := #[.val (.int p0), .val (.int ((p0 &&& (2147483647 : Int32)) % (5 : Int32))), .val (.ref w_HEARTBEAT), .val (.int (1 : Int32))]) rfl ?_
            show Steps p.tables e below (T15.setTop (mkF m 59 #[.val (.int p0), .val (.int ((p0 &&& (2147483647 : Int32)) % (5 : Int32))), .val (.ref w_HEARTBEAT), .val (.int (1 : Int32))] [])) _
            refine XS.goto X15.here hx rfl (pc0 := 59) (pc' := 68) rfl (hb hby at_59) (by decide) (by decide) ?_
            show Steps p.tables e below (T15.setTop (mkF m 68 #[.val (.int p0), .val (.int ((p0 &&& (2147483647 : Int32)) % (5 : Int32))), .val (.ref w_HEARTBEAT), .val (.int (1 : Int32))] [])) _
            refine XS.aloadN X15.here hx rfl (hb hby at_68) rfl rfl ?_
            show Steps p.tables e below (T15.setTop (mkF m 69 #[.val (.int p0), .val (.int ((p0 &&& (2147483647 : Int32)) % (5 : Int32))), .val (.ref w_HEARTBEAT), .val (.int (1 : Int32))] [(.ref w_HEARTBEAT)])) _
            refine st16.trans ?_
            show Steps p.tables e below (T16.setTop (mkF m 72 #[.val (.int p0), .val (.int ((p0 &&& (2147483647 : Int32)) % (5 : Int32))), .val (.ref w_HEARTBEAT), .val (.int (1 : Int32))] [(.int (fd w_HEARTBEAT w_LEAVE w_HEARTBEAT))])) _
            refine XS.iloadN X16.here hx rfl (hb hby at_72) rfl ?_
            exact k
          refine own_go (A' := (T16.setTop (mkF m 76 #[.val (.int p0), .val (.int ((p0 &&& (2147483647 : Int32)) % (5 : Int32))), .val (.ref w_HEARTBEAT), .val (.int (1 : Int32))] []))) (fun t k => XS.icmpNo X16.here hx rfl (hb hby at_73) rfl (teq (by simp [fd, own_fld_ne O_HEARTBEAT_ordinal O_LEAVE_ordinal (by decide)])).2 k) ?_
          refine own_go (A' := (T16.setTop (mkF m 81 #[.val (.int p0), .val (.int ((p0 &&& (2147483647 : Int32)) % (5 : Int32))), .val (.ref w_HEARTBEAT), .val (.int (1 : Int32))] [(.int (1 : Int32))]))) (fun t k => ?_) ?_
          · show Steps p.tables e below (T16.setTop (mkF m 76 #[.val (.int p0), .val (.int ((p0 &&& (2147483647 : Int32)) % (5 : Int32))), .val (.ref w_HEARTBEAT), .val (.int (1 : Int32))] [])) _
            refine XS.iconst X16.here hx rfl (hb hby at_76) ?_
            show Steps p.tables e below (T16.setTop (mkF m 77 #[.val (.int p0), .val (.int ((p0 &&& (2147483647 : Int32)) % (5 : Int32))), .val (.ref w_HEARTBEAT), .val (.int (1 : Int32))] [(.int (1 : Int32))])) _
            refine XS.goto X16.here hx rfl (pc0 := 77) (pc' := 81) rfl (hb hby at_77) (by decide) (by decide) ?_
            exact k
          obtain ⟨fs, hr, hrun, hended, hW, hsame⟩ := X16.leave (v := some (.int (1 : Int32))) (fun h => by rw [Bd.returns] at h; cases h)
          refine ⟨_, _, ?_, hrun, hended, _, _, rfl, ?_, ⟨_, rfl⟩, hW, hsame.mono (by decide) (by decide)⟩
          · show Steps p.tables e below (T16.setTop (mkF m 81 #[.val (.int p0), .val (.int ((p0 &&& (2147483647 : Int32)) % (5 : Int32))), .val (.ref w_HEARTBEAT), .val (.int (1 : Int32))] [(.int (1 : Int32))])) _
            exact retN X16 hx (t := .boolean) Bd.returns (by simp) (hb hby at_81) hr
          · show Q0 Z p0 w_ELECTION w_HEARTBEAT w_LEAVE w_ANSWER w_COORDINATOR h0 n0 _ _ _
            exact ⟨rfl, N16⟩
        · -- hc14: no
          refine own_go (A' := (s₁.setTop (mkF m 62 #[.val (.int p0), .val (.int ((p0 &&& (2147483647 : Int32)) % (5 : Int32))), .unset, .unset] []))) (fun t k => XS.icmpYes X0.here hx rfl (pc0 := 50) (pc' := 62) rfl (hb hby at_50) rfl (feq hc14).2 (by decide) (by decide) k) ?_
          obtain ⟨T17, X17, e17, st17⟩ := getS2 X0 hx hZ hown (host := "") (Or.inl (hw _ (List.mem_of_getElem? (i := 16) rfl))) Via.refl e0 S_LEAVE (g := (mkF m 62 #[.val (.int p0), .val (.int ((p0 &&& (2147483647 : Int32)) % (5 : Int32))), .unset, .unset] [])) rfl (hb hby at_62)
          obtain ⟨cq18, kq18, q18a, q18b, q18c⟩ := isOf hZ e17 E_LEAVE
          obtain ⟨_, _, ⟨T18, L18, k18, n18⟩, -, X18, ⟨Lc18, hQ18, l18, y18, z18⟩, st18⟩ := X17.virtualBack hx (y := (⟨"com/example/ithaca/ithaca/election/MessageKind", "isForDetector", "()Z"⟩ : MethodName)) (z := (⟨"com/example/ithaca/ithaca/election/MessageKind", "isForDetector", "()Z"⟩ : MethodName)) hown (mvT hZ (hw _ (List.mem_of_getElem? (i := 4) rfl))) (mvT hZ (hw _ (List.mem_of_getElem? (i := 5) rfl))) (notFace_of_selects (args := #[]) (mvT hZ (hw _ (List.mem_of_getElem? (i := 7) rfl)))) (mvT hZ (hw _ (List.mem_of_getElem? (i := 7) rfl))) (mvT hZ (hw _ (List.mem_of_getElem? (i := 6) rfl))) (by decide) (backOf (W := 0) (rm1 l Z a0 hw [] w_LEAVE w_ELECTION w_HEARTBEAT w_LEAVE w_ANSWER w_COORDINATOR h0 n0 Z0 S_ELECTION S_HEARTBEAT S_LEAVE S_ANSWER S_COORDINATOR E_ELECTION E_HEARTBEAT E_LEAVE E_ANSWER E_COORDINATOR O_ELECTION_ordinal O_HEARTBEAT_ordinal O_LEAVE_ordinal O_ANSWER_ordinal O_COORDINATOR_ordinal) hZ (hw _ (List.mem_of_getElem? (i := 8) rfl)) (hw _ (List.mem_of_getElem? (i := 2) rfl)) (by decide) (by decide)) q18a q18c (g := (mkF m 69 #[.val (.int p0), .val (.int ((p0 &&& (2147483647 : Int32)) % (5 : Int32))), .val (.ref w_LEAVE), .val (.int (1 : Int32))] [(.ref w_LEAVE)])) rfl (by rw [hml]; rfl) (Steps.refl _) (argsL := []) (rest := []) (lenOf pd_0 rfl) rfl (by show 2 * 0 + _ ≤ _; exact Nat.le_of_eq rfl) (hb hby at_69) (fun _ _ => ⟨rfl, e17, (by decide : 0 + 0 ≤ _), (by decide : 0 + 0 ≤ _)⟩)
          dsimp only [Pt.U, Pt.locs, Pt.cells, Pt.slots] at X18 l18 y18 z18 st18 hQ18
          subst l18 y18 z18
          obtain ⟨rfl, N18q, e18⟩ := hQ18
          have N18 := Fr.app N0 N18q
          refine own_go (A' := (T18.setTop (mkF m 73 #[.val (.int p0), .val (.int ((p0 &&& (2147483647 : Int32)) % (5 : Int32))), .val (.ref w_LEAVE), .val (.int (1 : Int32))] [(.int (1 : Int32)), (.int (fd w_HEARTBEAT w_LEAVE w_LEAVE))]))) (fun t k => ?_) ?_
          · show Steps p.tables e below (s₁.setTop (mkF m 62 #[.val (.int p0), .val (.int ((p0 &&& (2147483647 : Int32)) % (5 : Int32))), .unset, .unset] [])) _
            refine st17 _ ?_
            show Steps p.tables e below (T17.setTop (mkF m 65 #[.val (.int p0), .val (.int ((p0 &&& (2147483647 : Int32)) % (5 : Int32))), .unset, .unset] [(.ref w_LEAVE)])) _
            refine XS.astoreN X17.here hx rfl (hb hby at_65) rfl rfl (l' := #[.val (.int p0), .val (.int ((p0 &&& (2147483647 : Int32)) % (5 : Int32))), .val (.ref w_LEAVE), .unset]) rfl ?_
            show Steps p.tables e below (T17.setTop (mkF m 66 #[.val (.int p0), .val (.int ((p0 &&& (2147483647 : Int32)) % (5 : Int32))), .val (.ref w_LEAVE), .unset] [])) _
            refine XS.iconst X17.here hx rfl (hb hby at_66) ?_
            show Steps p.tables e below (T17.setTop (mkF m 67 #[.val (.int p0), .val (.int ((p0 &&& (2147483647 : Int32)) % (5 : Int32))), .val (.ref w_LEAVE), .unset] [(.int (1 : Int32))])) _
            refine XS.istoreN X17.here hx rfl (hb hby at_67) rfl (l' := #[.val (.int p0), .val (.int ((p0 &&& (2147483647 : Int32)) % (5 : Int32))), .val (.ref w_LEAVE), .val (.int (1 : Int32))]) rfl ?_
            show Steps p.tables e below (T17.setTop (mkF m 68 #[.val (.int p0), .val (.int ((p0 &&& (2147483647 : Int32)) % (5 : Int32))), .val (.ref w_LEAVE), .val (.int (1 : Int32))] [])) _
            refine XS.aloadN X17.here hx rfl (hb hby at_68) rfl rfl ?_
            show Steps p.tables e below (T17.setTop (mkF m 69 #[.val (.int p0), .val (.int ((p0 &&& (2147483647 : Int32)) % (5 : Int32))), .val (.ref w_LEAVE), .val (.int (1 : Int32))] [(.ref w_LEAVE)])) _
            refine st18.trans ?_
            show Steps p.tables e below (T18.setTop (mkF m 72 #[.val (.int p0), .val (.int ((p0 &&& (2147483647 : Int32)) % (5 : Int32))), .val (.ref w_LEAVE), .val (.int (1 : Int32))] [(.int (fd w_HEARTBEAT w_LEAVE w_LEAVE))])) _
            refine XS.iloadN X18.here hx rfl (hb hby at_72) rfl ?_
            exact k
          refine own_go (A' := (T18.setTop (mkF m 76 #[.val (.int p0), .val (.int ((p0 &&& (2147483647 : Int32)) % (5 : Int32))), .val (.ref w_LEAVE), .val (.int (1 : Int32))] []))) (fun t k => XS.icmpNo X18.here hx rfl (hb hby at_73) rfl (teq (by simp [fd, own_fld_ne O_LEAVE_ordinal O_HEARTBEAT_ordinal (by decide)])).2 k) ?_
          refine own_go (A' := (T18.setTop (mkF m 81 #[.val (.int p0), .val (.int ((p0 &&& (2147483647 : Int32)) % (5 : Int32))), .val (.ref w_LEAVE), .val (.int (1 : Int32))] [(.int (1 : Int32))]))) (fun t k => ?_) ?_
          · show Steps p.tables e below (T18.setTop (mkF m 76 #[.val (.int p0), .val (.int ((p0 &&& (2147483647 : Int32)) % (5 : Int32))), .val (.ref w_LEAVE), .val (.int (1 : Int32))] [])) _
            refine XS.iconst X18.here hx rfl (hb hby at_76) ?_
            show Steps p.tables e below (T18.setTop (mkF m 77 #[.val (.int p0), .val (.int ((p0 &&& (2147483647 : Int32)) % (5 : Int32))), .val (.ref w_LEAVE), .val (.int (1 : Int32))] [(.int (1 : Int32))])) _
            refine XS.goto X18.here hx rfl (pc0 := 77) (pc' := 81) rfl (hb hby at_77) (by decide) (by decide) ?_
            exact k
          obtain ⟨fs, hr, hrun, hended, hW, hsame⟩ := X18.leave (v := some (.int (1 : Int32))) (fun h => by rw [Bd.returns] at h; cases h)
          refine ⟨_, _, ?_, hrun, hended, _, _, rfl, ?_, ⟨_, rfl⟩, hW, hsame.mono (by decide) (by decide)⟩
          · show Steps p.tables e below (T18.setTop (mkF m 81 #[.val (.int p0), .val (.int ((p0 &&& (2147483647 : Int32)) % (5 : Int32))), .val (.ref w_LEAVE), .val (.int (1 : Int32))] [(.int (1 : Int32))])) _
            exact retN X18 hx (t := .boolean) Bd.returns (by simp) (hb hby at_81) hr
          · show Q0 Z p0 w_ELECTION w_HEARTBEAT w_LEAVE w_ANSWER w_COORDINATOR h0 n0 _ _ _
            exact ⟨rfl, N18⟩
theorem own_eqint {t : Term} {k : Int32} {args : Array Value} {first s : State} {o : Option Outcome} {idx : List Nat} (h : (Jvm.Cond.eq t (.int k)).value args first o s idx = some true) : t.eval args first o idx s = some (.int k) := by
  cases ht : t.eval args first o idx s with
  | none => simp [Cond.value, Term.eval, ht] at h
  | some x => cases x <;> simp [Cond.value, Term.eval, ht] at h; subst h; rfl
set_option maxRecDepth 65536 in
set_option maxHeartbeats 40000000 in
theorem comes_1 {Post : Tables → Env → Array Value → State → Outcome → State → Prop} (hpost : ∀ tb e args s v u, (limb_1_1.after args s (.returned v) u = true ∧ limb_1_2.after args s (.returned v) u = true ∧ True) → FrameEnd s (.returned v) u (Jvm.fieldLocs frame_1_writes args s ++ Jvm.arrayLocs frame_1_arrays args s ++ Jvm.staticLocs frame_1_statics s) 0 0 → Post tb e args s (.returned v) u) :
    ArmFor flags0 classFile x code maxLocals ret World_1 tables_1 room_1 Calls_1 rest_1 Pre_1 Post := by
  intro l hfl _ _ p e ha hc hk s m args below hf hA hF happ hP
  obtain ⟨hcalls, hrest, hpre⟩ := hP
  obtain ⟨-, -, -, hnamed, -, -, -, hat⟩ := (Spec.applies_iff hf).mp happ
  obtain ⟨hg, hn⟩ := and_e (Cond.before_iff.mp (show (Jvm.Cond.and given_1 narrow_1).before args s = true from hpre))
  have hv0 := (and_e hg).2
  obtain ⟨w0, rfl⟩ : ∃ w0 : Value, args = #[w0] := by
    have hs : args.size = 1 := by simpa [Cond.value, given_1] using (and_e hg).1
    obtain ⟨L⟩ := args
    match L, hs with
    | [w0], _ => exact ⟨w0, rfl⟩
  have hw := fun d (hd : d ∈ tables_1) => atoms_spec (ws := Jvm.Cond.code x code maxLocals ret :: tables_1) hat d (List.mem_cons_of_mem _ hd)
  have hfit : Fit s := fun {y c} hc i hi => by
    obtain ⟨ha, rfl⟩ := Array.getElem?_eq_some_iff.mp hc
    have q := List.all_eq_true.mp ((Array.all_eq_true_iff_forall_mem.mp hF) _ (Array.getElem_mem ha)) i (List.mem_range.mpr hi)
    simpa [Array.getElem?_eq_getElem hi] using q
  obtain ⟨i0, ei0⟩ := is_v hv0
  obtain rfl : w0 = (.int i0) := Option.some.inj ei0
  have hx_ELECTION := (and_e hn).1
  obtain ⟨w_ELECTION, ev_ELECTION⟩ := exa_v hx_ELECTION
  have S_ELECTION : Sta s s.heap "com/example/ithaca/ithaca/election/MessageKind" "ELECTION" "Lcom/example/ithaca/ithaca/election/MessageKind;" (.ref w_ELECTION) := Sta.start ev_ELECTION (Or.inr ⟨(hw _ (List.mem_of_getElem? (i := 2) rfl)), (hw _ (List.mem_of_getElem? (i := 3) rfl))⟩)
  have E_ELECTION : Exa s s.heap w_ELECTION "com/example/ithaca/ithaca/election/MessageKind" := Exa.start ev_ELECTION hx_ELECTION
  have O_ELECTION_ordinal : Fld s s.heap w_ELECTION "java/lang/Enum" "ordinal" "I" (.int (0 : Int32)) := Fld.start ((fld_at ev_ELECTION).symm.trans (own_eqint (and_e (and_e (and_e hn).2).2).1))
  have hx_HEARTBEAT := (and_e (and_e hn).2).1
  obtain ⟨w_HEARTBEAT, ev_HEARTBEAT⟩ := exa_v hx_HEARTBEAT
  have S_HEARTBEAT : Sta s s.heap "com/example/ithaca/ithaca/election/MessageKind" "HEARTBEAT" "Lcom/example/ithaca/ithaca/election/MessageKind;" (.ref w_HEARTBEAT) := Sta.start ev_HEARTBEAT (Or.inr ⟨(hw _ (List.mem_of_getElem? (i := 2) rfl)), (hw _ (List.mem_of_getElem? (i := 10) rfl))⟩)
  have E_HEARTBEAT : Exa s s.heap w_HEARTBEAT "com/example/ithaca/ithaca/election/MessageKind" := Exa.start ev_HEARTBEAT hx_HEARTBEAT
  have O_HEARTBEAT_ordinal : Fld s s.heap w_HEARTBEAT "java/lang/Enum" "ordinal" "I" (.int (3 : Int32)) := Fld.start ((fld_at ev_HEARTBEAT).symm.trans (own_eqint (and_e (and_e (and_e (and_e hn).2).2).2).1))
  have hx_LEAVE := (and_e (and_e (and_e (and_e (and_e hn).2).2).2).2).1
  obtain ⟨w_LEAVE, ev_LEAVE⟩ := exa_v hx_LEAVE
  have S_LEAVE : Sta s s.heap "com/example/ithaca/ithaca/election/MessageKind" "LEAVE" "Lcom/example/ithaca/ithaca/election/MessageKind;" (.ref w_LEAVE) := Sta.start ev_LEAVE (Or.inr ⟨(hw _ (List.mem_of_getElem? (i := 2) rfl)), (hw _ (List.mem_of_getElem? (i := 12) rfl))⟩)
  have E_LEAVE : Exa s s.heap w_LEAVE "com/example/ithaca/ithaca/election/MessageKind" := Exa.start ev_LEAVE hx_LEAVE
  have O_LEAVE_ordinal : Fld s s.heap w_LEAVE "java/lang/Enum" "ordinal" "I" (.int (4 : Int32)) := Fld.start ((fld_at ev_LEAVE).symm.trans (own_eqint (and_e (and_e (and_e (and_e (and_e (and_e hn).2).2).2).2).2).1))
  have hx_ANSWER := (and_e (and_e (and_e (and_e (and_e (and_e (and_e hn).2).2).2).2).2).2).1
  obtain ⟨w_ANSWER, ev_ANSWER⟩ := exa_v hx_ANSWER
  have S_ANSWER : Sta s s.heap "com/example/ithaca/ithaca/election/MessageKind" "ANSWER" "Lcom/example/ithaca/ithaca/election/MessageKind;" (.ref w_ANSWER) := Sta.start ev_ANSWER (Or.inr ⟨(hw _ (List.mem_of_getElem? (i := 2) rfl)), (hw _ (List.mem_of_getElem? (i := 15) rfl))⟩)
  have E_ANSWER : Exa s s.heap w_ANSWER "com/example/ithaca/ithaca/election/MessageKind" := Exa.start ev_ANSWER hx_ANSWER
  have O_ANSWER_ordinal : Fld s s.heap w_ANSWER "java/lang/Enum" "ordinal" "I" (.int (1 : Int32)) := Fld.start ((fld_at ev_ANSWER).symm.trans (own_eqint (and_e (and_e (and_e (and_e (and_e (and_e (and_e (and_e hn).2).2).2).2).2).2).2).1))
  have hx_COORDINATOR := (and_e (and_e (and_e (and_e (and_e (and_e (and_e (and_e (and_e hn).2).2).2).2).2).2).2).2).1
  obtain ⟨w_COORDINATOR, ev_COORDINATOR⟩ := exa_v hx_COORDINATOR
  have S_COORDINATOR : Sta s s.heap "com/example/ithaca/ithaca/election/MessageKind" "COORDINATOR" "Lcom/example/ithaca/ithaca/election/MessageKind;" (.ref w_COORDINATOR) := Sta.start ev_COORDINATOR (Or.inr ⟨(hw _ (List.mem_of_getElem? (i := 2) rfl)), (hw _ (List.mem_of_getElem? (i := 18) rfl))⟩)
  have E_COORDINATOR : Exa s s.heap w_COORDINATOR "com/example/ithaca/ithaca/election/MessageKind" := Exa.start ev_COORDINATOR hx_COORDINATOR
  have O_COORDINATOR_ordinal : Fld s s.heap w_COORDINATOR "java/lang/Enum" "ordinal" "I" (.int (2 : Int32)) := Fld.start ((fld_at ev_COORDINATOR).symm.trans (own_eqint (and_e (and_e (and_e (and_e (and_e (and_e (and_e (and_e (and_e hn).2).2).2).2).2).2).2).2).2))
  obtain ⟨n, o, h1, h2, h3, _, L, rfl, ⟨rfl, N⟩, hq⟩ := rm0 l s _ hw tables_1 i0 w_ELECTION w_HEARTBEAT w_LEAVE w_ANSWER w_COORDINATOR s.heap s.heap.size (Nat.le_refl _) S_ELECTION S_HEARTBEAT S_LEAVE S_ANSWER S_COORDINATOR E_ELECTION E_HEARTBEAT E_LEAVE E_ANSWER E_COORDINATOR O_ELECTION_ordinal O_HEARTBEAT_ordinal O_LEAVE_ordinal O_ANSWER_ordinal O_COORDINATOR_ordinal p e ha hc hk s m _ below hf ((Spec.applies_iff_loose hf).mp happ).1 ⟨rfl, State.Warmed39.refl s, rfl⟩ trivial
  refine ⟨n, _, h1, h2, h3, hpost _ _ _ _ _ _ ⟨Cond.after_iff.mpr rfl, Cond.after_iff.mpr (eq_i res_at (Term.int_eval (1)) rfl), trivial⟩ ⟨hq.1, hq.2.1, (hq.2.2.sift fun y hy => Or.inr (N y hy)).mono (by decide) (by decide)⟩⟩
theorem main_1_1 : Claimed_1_1 := comes_1 fun _ _ _ _ _ _ h hF => ⟨h.1, hF⟩
theorem main_1_2 : Claimed_1_2 := comes_1 fun _ _ _ _ _ _ h hF => ⟨h.2.1, hF⟩
end Jvm.Pilot.@@N@@
namespace Jvm.Pilot.@@N@@
open Jvm Jvm.ClassFile Sem Op Lib Jvm.Free Jvm.Stand Jvm.Pilot.@@N@@.Jvm.D
/-! MADE BY PROGRAM (witnessworld.py) out of the Statement's table words and the real class files: 12 classes; the members and pool entries that the words name. The judged class is class 1, her method 1. -/
namespace start1
open Jvm.ClassFile
def u (s : String) : CpInfo := .utf8 (stringToUtf16 s)
/-- a pool by its gaps: so many unusable entries, then the entry; so many at the end -/
def gap : Nat → List CpInfo → List CpInfo
  | 0, r => r
  | n + 1, r => .unusable :: gap n r
def poolList (es : List (Nat × CpInfo)) (last : Nat) : List CpInfo := es.foldr (fun e r => gap e.1 (e.2 :: r)) (gap last [])
def pool (es : List (Nat × CpInfo)) (last : Nat) : Array CpInfo := ⟨poolList es last⟩
def fileOf (pool : Array CpInfo) (this : Nat) (attrs : Array Attribute := #[]) (ms : Array MethodInfo := #[]) (fl : Nat := 33) (sup : Nat := 0) (ifs : Array Nat := #[]) (fds : Array FieldInfo := #[]) : ClassFile where
  minorVersion := 0
  majorVersion := 65
  constantPool := pool
  accessFlags := fl
  thisClass := this
  superClass := sup
  interfaces := ifs
  fields := fds
  methods := ms
  attributes := attrs
def plain (name : String) (sup : Option ClassId) : Class where
  name := name
  kind := .ordinary
  loader := none
  accessFlags := 33
  super := sup
  interfaces := #[]
  cf := none
  fields := #[]
  methods := #[]
  instanceTypes := #[]
  staticTypes := #[]
  resolved := #[]
  callSites := []
  init := .initialized
  statics := none
  mirror := none

def pool0 : Array CpInfo := pool [(5, u "<init>"), (0, u "()V"), (1, .class_ 10), (1, u "java/lang/Object")] 113

def k0m0 : Method := { name := "<init>", desc := "()V", sig := { parameters := [], returnType := none }, accessFlags := 1, code := none }
/-- java/lang/Object -/
def k0 : Class := { plain "java/lang/Object" none with
  accessFlags := 33
  interfaces := #[]
  cf := some (fileOf pool0 8 #[] #[{ accessFlags := 1, nameIndex := 5, descriptorIndex := 6, attributes := #[] }] 33 0 #[] #[])
  fields := #[]
  methods := #[k0m0]
  instanceTypes := #[]
  staticTypes := #[]
  resolved := Array.replicate 124 none
  statics := none }

def pool1 : Array CpInfo := pool [(2, .class_ 4), (1, u "java/lang/Object"), (0, u "<init>"), (0, u "()V"), (0, .integer 2147483647), (0, .fieldref 9 10), (0, .class_ 11), (0, .nameAndType 12 13), (0, u "com/example/ithaca/ithaca/election/MessageKind"), (0, u "ELECTION"), (0, u "Lcom/example/ithaca/ithaca/election/MessageKind;"), (0, .fieldref 9 15), (0, .nameAndType 16 13), (0, u "ANSWER"), (0, .fieldref 9 18), (0, .nameAndType 19 13), (0, u "COORDINATOR"), (0, .fieldref 9 21), (0, .nameAndType 22 13), (0, u "HEARTBEAT"), (0, .fieldref 9 24), (0, .nameAndType 25 13), (0, u "LEAVE"), (0, .methodref 9 27), (0, .nameAndType 28 29), (0, u "isForDetector"), (0, u "()Z"), (0, .class_ 31), (0, u "com/example/ithaca/ithaca/election/MessageKindIsForDetectorPinLaw"), (2, u "law"), (0, u "(I)Z")] 3

def k1m0 : Method := { name := "<init>", desc := "()V", sig := { parameters := [], returnType := none }, accessFlags := 1, code := none }
def k1c1 : Code := { maxStack := 2, maxLocals := 4, code := code, exceptionTable := #[], attributes := #[] }
def k1m1 : Method := { name := "law", desc := "(I)Z", sig := { parameters := [.int], returnType := some .boolean }, accessFlags := 9, code := some k1c1 }
/-- com/example/ithaca/ithaca/election/MessageKindIsForDetectorPinLaw -/
def k1 : Class := { plain "com/example/ithaca/ithaca/election/MessageKindIsForDetectorPinLaw" (some 0) with
  accessFlags := 49
  interfaces := #[]
  cf := some (fileOf pool1 30 #[] #[{ accessFlags := 1, nameIndex := 5, descriptorIndex := 6, attributes := #[] }, { accessFlags := 9, nameIndex := 34, descriptorIndex := 35, attributes := #[] }] 49 2 #[] #[])
  fields := #[]
  methods := #[k1m0, k1m1]
  instanceTypes := #[]
  staticTypes := #[]
  resolved := Array.replicate 39 none
  statics := none }

def pool2 : Array CpInfo := pool [(1, .class_ 2), (0, u "java/lang/constant/Constable"), (0, .class_ 4), (0, u "java/lang/Object")] 6

/-- java/lang/constant/Constable -/
def k2 : Class := { plain "java/lang/constant/Constable" (some 0) with
  accessFlags := 1537
  interfaces := #[]
  cf := some (fileOf pool2 1 #[] #[] 1537 3 #[] #[])
  fields := #[]
  methods := #[]
  instanceTypes := #[]
  staticTypes := #[]
  resolved := Array.replicate 11 none
  statics := none }

def pool3 : Array CpInfo := pool [(1, .class_ 2), (0, u "java/lang/Comparable"), (0, .class_ 4), (0, u "java/lang/Object")] 7

/-- java/lang/Comparable -/
def k3 : Class := { plain "java/lang/Comparable" (some 0) with
  accessFlags := 1537
  interfaces := #[]
  cf := some (fileOf pool3 1 #[] #[] 1537 3 #[] #[])
  fields := #[]
  methods := #[]
  instanceTypes := #[]
  staticTypes := #[]
  resolved := Array.replicate 12 none
  statics := none }

def pool4 : Array CpInfo := pool [(1, .class_ 2), (0, u "java/io/Serializable"), (0, .class_ 4), (0, u "java/lang/Object")] 2

/-- java/io/Serializable -/
def k4 : Class := { plain "java/io/Serializable" (some 0) with
  accessFlags := 1537
  interfaces := #[]
  cf := some (fileOf pool4 1 #[] #[] 1537 3 #[] #[])
  fields := #[]
  methods := #[]
  instanceTypes := #[]
  staticTypes := #[]
  resolved := Array.replicate 7 none
  statics := none }

def pool5 : Array CpInfo := pool [(2, .class_ 4), (1, u "java/lang/Enum"), (0, u "name"), (0, u "Ljava/lang/String;"), (2, u "ordinal"), (0, u "I"), (1, .class_ 14), (1, u "java/lang/Object"), (4, u "hash"), (86, .class_ 108), (1, u "java/lang/Enum$EnumDesc"), (2, .class_ 112), (0, u "java/lang/constant/Constable"), (0, .class_ 114), (0, u "java/lang/Comparable"), (0, .class_ 116), (0, u "java/io/Serializable")] 87

/-- java/lang/Enum -/
def k5 : Class := { plain "java/lang/Enum" (some 0) with
  accessFlags := 1057
  interfaces := #[2, 3, 4]
  cf := some (fileOf pool5 2 #[.nestMembers #[106]] #[] 1057 12 #[111, 113, 115] #[{ accessFlags := 18, nameIndex := 5, descriptorIndex := 6, attributes := #[] }, { accessFlags := 18, nameIndex := 9, descriptorIndex := 10, attributes := #[] }, { accessFlags := 2, nameIndex := 19, descriptorIndex := 10, attributes := #[] }])
  fields := #[{ name := "name", type := (.object "java/lang/String"), accessFlags := 18, slot := 0, constantValue := 0 }, { name := "ordinal", type := .int, accessFlags := 18, slot := 1, constantValue := 0 }, { name := "hash", type := .int, accessFlags := 2, slot := 2, constantValue := 0 }]
  methods := #[]
  instanceTypes := #[(.object "java/lang/String"), .int, .int]
  staticTypes := #[]
  resolved := Array.replicate 204 none
  statics := none }

def pool6 : Array CpInfo := pool [(1, .class_ 2), (0, u "com/example/ithaca/ithaca/election/MessageKind"), (2, u "ELECTION"), (0, u "Lcom/example/ithaca/ithaca/election/MessageKind;"), (2, u "ANSWER"), (2, u "COORDINATOR"), (0, .fieldref 1 14), (0, .nameAndType 15 6), (0, u "HEARTBEAT"), (0, .fieldref 1 17), (0, .nameAndType 18 6), (0, u "LEAVE"), (2, u "$VALUES"), (0, u "[Lcom/example/ithaca/ithaca/election/MessageKind;"), (6, .class_ 31), (1, u "java/lang/Enum"), (23, u "isForDetector"), (0, u "()Z")] 5

def k6c0 : Code := { maxStack := 2, maxLocals := 1, code := prog_19_method_4_code, exceptionTable := #[], attributes := #[] }
def k6m0 : Method := { name := "isForDetector", desc := "()Z", sig := { parameters := [], returnType := some .boolean }, accessFlags := 1, code := some k6c0 }
/-- com/example/ithaca/ithaca/election/MessageKind -/
def k6 : Class := { plain "com/example/ithaca/ithaca/election/MessageKind" (some 5) with
  accessFlags := 16433
  interfaces := #[]
  cf := some (fileOf pool6 1 #[] #[{ accessFlags := 1, nameIndex := 55, descriptorIndex := 56, attributes := #[] }] 16433 29 #[] #[{ accessFlags := 16409, nameIndex := 5, descriptorIndex := 6, attributes := #[] }, { accessFlags := 16409, nameIndex := 9, descriptorIndex := 6, attributes := #[] }, { accessFlags := 16409, nameIndex := 12, descriptorIndex := 6, attributes := #[] }, { accessFlags := 16409, nameIndex := 15, descriptorIndex := 6, attributes := #[] }, { accessFlags := 16409, nameIndex := 18, descriptorIndex := 6, attributes := #[] }, { accessFlags := 4122, nameIndex := 21, descriptorIndex := 22, attributes := #[] }])
  fields := #[{ name := "ELECTION", type := (.object "com/example/ithaca/ithaca/election/MessageKind"), accessFlags := 16409, slot := 0, constantValue := 0 }, { name := "ANSWER", type := (.object "com/example/ithaca/ithaca/election/MessageKind"), accessFlags := 16409, slot := 1, constantValue := 0 }, { name := "COORDINATOR", type := (.object "com/example/ithaca/ithaca/election/MessageKind"), accessFlags := 16409, slot := 2, constantValue := 0 }, { name := "HEARTBEAT", type := (.object "com/example/ithaca/ithaca/election/MessageKind"), accessFlags := 16409, slot := 3, constantValue := 0 }, { name := "LEAVE", type := (.object "com/example/ithaca/ithaca/election/MessageKind"), accessFlags := 16409, slot := 4, constantValue := 0 }, { name := "$VALUES", type := (.array (.object "com/example/ithaca/ithaca/election/MessageKind")), accessFlags := 4122, slot := 5, constantValue := 0 }]
  methods := #[k6m0]
  instanceTypes := #[(.object "java/lang/String"), .int, .int]
  staticTypes := #[(.object "com/example/ithaca/ithaca/election/MessageKind"), (.object "com/example/ithaca/ithaca/election/MessageKind"), (.object "com/example/ithaca/ithaca/election/MessageKind"), (.object "com/example/ithaca/ithaca/election/MessageKind"), (.object "com/example/ithaca/ithaca/election/MessageKind"), (.array (.object "com/example/ithaca/ithaca/election/MessageKind"))]
  resolved := Array.replicate 62 none
  statics := some 0 }

def pool7 : Array CpInfo := pool [(1, u "java/lang/Cloneable"), (0, .class_ 1), (0, u "java/lang/Object"), (0, .class_ 3)] 3

/-- java/lang/Cloneable -/
def k7 : Class := { plain "java/lang/Cloneable" (some 0) with
  accessFlags := 1537
  interfaces := #[]
  cf := some (fileOf pool7 2 #[] #[] 1537 4 #[] #[])
  fields := #[]
  methods := #[]
  instanceTypes := #[]
  staticTypes := #[]
  resolved := Array.replicate 8 none
  statics := none }

/-- the primitive byte -/
def k8 : Class := { plain "byte" none with kind := .primitive 'B', accessFlags := 0x411 }
/-- [B -/
def k9 : Class := { plain "[B" (some 0) with kind := .array 8 .byte, interfaces := #[7, 4], accessFlags := 1041 }

/-- the primitive int -/
def k10 : Class := { plain "int" none with kind := .primitive 'I', accessFlags := 0x411 }
/-- [I -/
def k11 : Class := { plain "[I" (some 0) with kind := .array 10 .int, interfaces := #[7, 4], accessFlags := 1041 }

def heap : Heap := #[{ cls := 6, slots := #[.ref 1, .ref 4, .ref 5, .ref 2, .ref 3, .null], vm := .statics 6 },
  { cls := 6, slots := #[.null, .int 0, .int 0], vm := .none },
  { cls := 6, slots := #[.null, .int 3, .int 0], vm := .none },
  { cls := 6, slots := #[.null, .int 4, .int 0], vm := .none },
  { cls := 6, slots := #[.null, .int 1, .int 0], vm := .none },
  { cls := 6, slots := #[.null, .int 2, .int 0], vm := .none }]
def classes : Array Class := #[k0, k1, k2, k3, k4, k5, k6, k7, k8, k9, k10, k11]
def interned : List (Array UInt16 × Addr) := []
def slotsUsed : Nat := 21
def theMethod : MethodId := ⟨1, 1⟩
def args0 : Array Value := #[.int 5]
def aboutOver (below : List Frame) : State where
  vm := { classes := classes, interned := interned.toArray }
  heap := heap
  slotsUsed := slotsUsed
  threads := #[{ frames := .invoking theMethod args0 :: below }]
def below0 : List Frame := [.native { method := ⟨0, 0⟩, args := #[] }]
def about1 : State := aboutOver below0
def p0 : Program := .bare "" "" ""
def e0 : Env := launch0.env 0 0 0
theorem w_frames : about1.frames = Frame.invoking theMethod args0 :: below0 := rfl
set_option maxRecDepth 65536 in
theorem w_args : argsFit about1.vm theMethod args0 = true := by decide +kernel
set_option maxRecDepth 65536 in
theorem w_heap : heapFits about1 = true := by decide +kernel
set_option maxRecDepth 65536 in
theorem w_runnable : about1.curStatus? = some .runnable := by decide +kernel
set_option maxRecDepth 65536 in
theorem w_alone : about1.alone = true := by decide +kernel
set_option maxRecDepth 65536 in
theorem w_named : about1.methodNamed? x = some theMethod := by decide +kernel
set_option maxRecDepth 65536 in
theorem w_hears : about1.hears theMethod below0 = true := by decide +kernel
set_option maxRecDepth 65536 in
theorem w_ripe : about1.ripe theMethod args0 below0 = true := by decide +kernel
theorem w_running : about1.status = .running := rfl
set_option maxRecDepth 65536 in
theorem w_room : about1.hasRoom e0.platform room_1 = true :=
  launch0.hasRoom_least _ room_1 (by decide +kernel) (by decide +kernel) (by decide +kernel) (by decide +kernel) (by decide +kernel) (by decide +kernel)
theorem allAtoms_all (ts : List Jvm.Cond) (a : Array Jvm.Value) (st : Jvm.State) : (allAtoms ts).before a st = ts.all (fun c => c.before a st) := by
  induction ts with
  | nil => rfl
  | cons c t ih =>
    show (Jvm.Cond.and c (allAtoms t)).before a st = _
    rw [Jvm.Cond.before_and, ih, List.all_cons]
def words1 : List Jvm.Cond := Jvm.Cond.code x code maxLocals ret :: tables_1
/-- a 'code' word, met by the world's own term for the bytes: nothing is compared byte by byte -/
theorem code_word {y : MethodName} {bytes : ByteArray} {mx : Nat} {rt : Option FieldType} {a : Array Value} {s : State} {m : MethodId} {meth : Method} {c : Code} (h1 : s.methodNamed? y = some m) (h2 : s.vm.method? m = some meth) (h3 : meth.code = some c) (h4 : c.code = bytes)
    (h5 : (c.maxLocals == mx && c.exceptionTable.isEmpty && decide (c.maxStack ≤ mostOperands) && decide (meth.sig.returnType = rt) && !meth.locks && decide (parseMethodDescriptor y.desc = some meth.sig)) = true) : (Jvm.Cond.code y bytes mx rt).before a s = true := by
  simp only [Bool.and_eq_true, beq_iff_eq, Bool.not_eq_true', decide_eq_true_eq] at h5
  obtain ⟨⟨⟨⟨⟨g1, g2⟩, g3⟩, g4⟩, g5⟩, g6⟩ := h5
  simp [Cond.before, Cond.holds, Cond.value, h1, h2, h3, h4, g1, g2, g3, g4, g5, g6]
def isCode : Jvm.Cond → Bool
  | .code _ _ _ _ => true
  | _ => false
theorem all_split {L : List Jvm.Cond} {P : Jvm.Cond → Bool} (h1 : L.all (fun c => isCode c || P c) = true) (h2 : ∀ c ∈ L.filter isCode, P c = true) : L.all P = true := by
  refine List.all_eq_true.mpr fun c hc => ?_
  have h := List.all_eq_true.mp h1 c hc
  rcases Bool.eq_false_or_eq_true (isCode c) with hi | hi
  · exact h2 c (List.mem_filter.mpr ⟨hc, hi⟩)
  · simpa [hi] using h
set_option maxRecDepth 65536 in
theorem w_c0 : (Jvm.Cond.code x code maxLocals ret).before args0 about1 = true := code_word (m := ⟨1, 1⟩) (meth := k1m1) (c := k1c1) (by decide +kernel) rfl rfl rfl (by decide +kernel)
set_option maxRecDepth 65536 in
theorem w_c1 : (Jvm.Cond.code ({ cls := "com/example/ithaca/ithaca/election/MessageKind", name := "isForDetector", desc := "()Z" } : Jvm.MethodName) prog_19_method_4_code (1 : Nat) (Option.some Jvm.ClassFile.FieldType.boolean)).before args0 about1 = true := code_word (m := ⟨6, 0⟩) (meth := k6m0) (c := k6c0) (by decide +kernel) rfl rfl rfl (by decide +kernel)
def codes1 : List Jvm.Cond := [Jvm.Cond.code x code maxLocals ret, Jvm.Cond.code ({ cls := "com/example/ithaca/ithaca/election/MessageKind", name := "isForDetector", desc := "()Z" } : Jvm.MethodName) prog_19_method_4_code (1 : Nat) (Option.some Jvm.ClassFile.FieldType.boolean)]
set_option maxRecDepth 65536 in
theorem codes_eq : words1.filter isCode = codes1 := rfl
theorem w_codes : ∀ c ∈ words1.filter isCode, c.before args0 about1 = true := by
  rw [codes_eq]
  intro c hc
  simp only [codes1, List.mem_cons, List.not_mem_nil, or_false] at hc
  rcases hc with rfl | rfl
  · exact w_c0
  · exact w_c1
set_option maxRecDepth 65536 in
theorem w_t1 : words1.all (fun c => isCode c || c.before args0 about1) = true := by decide +kernel
theorem w_tables : (allAtoms (Jvm.Cond.code x code maxLocals ret :: tables_1)).before args0 about1 = true := by
  rw [allAtoms_all]
  show words1.all (fun c => c.before args0 about1) = true
  refine all_split ?_ w_codes
  rw [w_t1]
set_option maxRecDepth 65536 in
theorem w_case : (Jvm.Cond.and given_1 narrow_1).before args0 about1 = true := by decide +kernel
theorem w_applies : (headSpec (Jvm.Cond.code x code maxLocals ret :: tables_1) room_1).applies x e0.platform about1 = true :=
  (Spec.applies_iff w_frames).mpr ⟨w_running, w_runnable, w_alone, w_named, w_hears, w_ripe, w_room, w_tables⟩
theorem atStart : AtStart classFile x code maxLocals ret World_1 tables_1 room_1 Calls_1 rest_1 Pre_1 launch0 p0 e0 about1 theMethod args0 below0 :=
  ⟨lists_1, trivial, launch0.admits_env _ _ _, launch0.least_env, fairChoices_fair.cas, fairChoices_fair.clock, w_frames, w_args, w_heap, w_applies, trivial, trivial, w_case⟩
end start1
theorem witness_1 : WitnessClaimed_1 := ⟨start1.p0, start1.e0, start1.about1, start1.theMethod, start1.args0, start1.below0, start1.atStart⟩
end Jvm.Pilot.@@N@@
