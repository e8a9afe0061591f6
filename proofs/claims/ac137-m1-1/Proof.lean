import JvmDerived
import JvmDerived.Pilot.@@N@@Statement
import JvmDerived.Pilot.@@N@@Code
set_option linter.unusedVariables false
set_option linter.unusedSimpArgs false
namespace Jvm.RoadKit
open Sem ClassFile Op Lib Jvm.Stand Jvm.Free Jvm.LawKit
section New
variable {p : Program} {l : Launch} {e : Env} {R : Room} {s : State} {m : MethodId} {args : Array Value} {below : List Frame} {meth : Method} {c : Code} {T : State} {locs : List Loc} {cells slots : Nat}
theorem own_retV (X : Stand p l e R s m args below meth c T locs cells slots) (hx : p.tables.exec = Jvm.exec) {pc : Nat} {Ls : Array Slot} {w : Value} {rest : List Value} {t : FieldType} (hret : meth.sig.returnType = some t) (ht : t.isReference = true) (hw : w.isRef = true)
    (hd : decode c.code pc = .ok (.areturn, 1)) {fs : List Frame} (hl : ∀ (f : JFrame) (acts : List Action), f.method = m → f.locked = none → f.entered = [] → (doReturn e (T.setTop f) acts (some w)).1 = T.setFrames fs) :
    Steps p.tables e below (T.setTop (mkF m pc Ls (w :: rest))) (T.setFrames fs) :=
  retOut X hx hret (by cases t <;> first | rfl | cases ht) (Or.inr (Or.inr (Or.inr (Or.inr ⟨rfl, ht, hw⟩)))) hd hl
theorem own_retI (X : Stand p l e R s m args below meth c T locs cells slots) (hx : p.tables.exec = Jvm.exec) {pc : Nat} {Ls : Array Slot} {z : Int32} {rest : List Value} (hret : meth.sig.returnType = some .int)
    (hd : decode c.code pc = .ok (.ireturn, 1)) {fs : List Frame} (hl : ∀ (f : JFrame) (acts : List Action), f.method = m → f.locked = none → f.entered = [] → (doReturn e (T.setTop f) acts (some (.int z))).1 = T.setFrames fs) :
    Steps p.tables e below (T.setTop (mkF m pc Ls (.int z :: rest))) (T.setFrames fs) :=
  retOut X hx hret rfl (Or.inl ⟨rfl, Or.inl rfl, z, rfl⟩) hd hl
theorem own_retL (X : Stand p l e R s m args below meth c T locs cells slots) (hx : p.tables.exec = Jvm.exec) {pc : Nat} {Ls : Array Slot} {z : Int64} {rest : List Value} (hret : meth.sig.returnType = some .long)
    (hd : decode c.code pc = .ok (.lreturn, 1)) {fs : List Frame} (hl : ∀ (f : JFrame) (acts : List Action), f.method = m → f.locked = none → f.entered = [] → (doReturn e (T.setTop f) acts (some (.long z))).1 = T.setFrames fs) :
    Steps p.tables e below (T.setTop (mkF m pc Ls (.long z :: rest))) (T.setFrames fs) :=
  retOut X hx hret rfl (Or.inr (Or.inl ⟨rfl, rfl, z, rfl⟩)) hd hl
theorem own_go {tb : Tables} {e : Env} {below : List Frame} {A A' : State} {P : State → Outcome → Prop} (st : ∀ t, Steps tb e below A' t → Steps tb e below A t) (h : ∃ s₂ o, Steps tb e below A' s₂ ∧ P s₂ o) : ∃ s₂ o, Steps tb e below A s₂ ∧ P s₂ o :=
  let ⟨s₂, o, h1, h2⟩ := h
  ⟨s₂, o, st _ h1, h2⟩
theorem own_fld_inj {Z : State} {h : Heap} {a : Addr} {C n d : String} {v w : Value} (F : Fld Z h a C n d v) (G : Fld Z h a C n d w) : v = w := by
  obtain ⟨c1, cf1, k1, i1, f1, p1, p2, -, -, -, -, p5⟩ := F
  obtain ⟨c2, cf2, k2, i2, f2, q1, q2, -, -, -, -, q5⟩ := G
  rw [p1] at q1; cases q1
  rw [p2] at q2; cases q2
  have := p5.symm.trans q5
  simpa using this
theorem own_fld_ne {Z : State} {h : Heap} {a b : Addr} {C n d : String} {i j : Int32} (F : Fld Z h a C n d (.int i)) (G : Fld Z h b C n d (.int j)) (hij : ¬ i = j) : ¬ a = b := fun q => by
  subst q
  exact hij (Value.int.inj (own_fld_inj F G))
theorem own_keep_ext {h h' : Heap} (K : Keep h h' []) : Ext h h' := ⟨K.1, fun a c q => K.2.1 a c q nin0⟩
theorem own_sta_keep {Z : State} {h h' : Heap} {C n d K : String} {v : Value} {a : Addr} (F : Sta Z h C n d v) (k : Keep h h' [a]) (E : Exa Z h a K) : Sta Z h' C n d v := by
  obtain ⟨cf, i, kk, f, st, cell, h1, h2, h3, h4, h5, h6, h7⟩ := F
  refine ⟨cf, i, kk, f, st, cell, h1, h2, h3, h4, k.2.1 _ _ h5 (ninS (fun q => ?_) nin0), h6, h7⟩
  obtain ⟨cell', k', g1, -, -, g4, -⟩ := E
  subst q
  cases h5.symm.trans g1
  rw [h6] at g4; cases g4
theorem own_ext_trans {h h' h'' : Heap} (E : Ext h h') (F : Ext h' h'') : Ext h h'' := ⟨Nat.le_trans E.1 F.1, fun a c q => F.2 a c (E.2 a c q)⟩
theorem own_ext_keep {h h' h'' : Heap} {ws : List Addr} (E : Ext h h') (K : Keep h' h'' ws) (q : ∀ x ∈ ws, h.size ≤ x) : Ext h h'' :=
  ⟨Nat.le_trans E.1 K.1, fun a c r => K.2.1 a c (E.2 a c r) fun z => absurd (Array.getElem?_eq_some_iff.mp r).1 (Nat.not_lt.mpr (q a z))⟩
theorem own_ext_wr {h h' h'' : Heap} {b : Addr} {sl : Nat} {v : Value} (E : Ext h h') (W : Wr h' h'' b sl v) (q : h.size ≤ b) : Ext h h'' :=
  own_ext_keep E (Keep.of_wr W) fun x hx => by cases List.mem_singleton.mp hx; exact q
end New
end Jvm.RoadKit
namespace Jvm.Pilot.@@N@@
open Jvm Jvm.ClassFile Sem Op Lib Jvm.Free Jvm.Stand Jvm.LawKit Jvm.RoadKit Bundle Jvm.Pilot.@@N@@.Jvm.D
def pk (w_STARTING w_STARTED w_STOPPING w_STOPPED w_FAILED w_COMPLETED w_ABANDONED w_UNKNOWN : Addr) (k : Int32) : Addr := if k = (0 : Int32) then w_STARTING else if k = (1 : Int32) then w_STARTED else if k = (2 : Int32) then w_STOPPING else if k = (3 : Int32) then w_STOPPED else if k = (4 : Int32) then w_FAILED else if k = (5 : Int32) then w_COMPLETED else if k = (6 : Int32) then w_ABANDONED else w_UNKNOWN
def isRun (w0 w1 w2 a : Addr) : Int32 := if a = w0 then 1 else if a = w1 then 1 else if a = w2 then 1 else 0
def exRun (k : Int32) : Int32 := if k = (0 : Int32) then 1 else if k = (1 : Int32) then 1 else if k = (2 : Int32) then 1 else 0
theorem pk_exa {Z : State} {h : Heap} {C : String} {w_STARTING w_STARTED w_STOPPING w_STOPPED w_FAILED w_COMPLETED w_ABANDONED w_UNKNOWN : Addr} (k : Int32) (e0 : Exa Z h w_STARTING C) (e1 : Exa Z h w_STARTED C) (e2 : Exa Z h w_STOPPING C) (e3 : Exa Z h w_STOPPED C) (e4 : Exa Z h w_FAILED C) (e5 : Exa Z h w_COMPLETED C) (e6 : Exa Z h w_ABANDONED C) (e7 : Exa Z h w_UNKNOWN C) : Exa Z h (pk w_STARTING w_STARTED w_STOPPING w_STOPPED w_FAILED w_COMPLETED w_ABANDONED w_UNKNOWN k) C := by
  unfold pk
  repeat' split
  all_goals assumption
theorem own_key {w_STARTING w_STARTED w_STOPPING w_STOPPED w_FAILED w_COMPLETED w_ABANDONED w_UNKNOWN : Addr} (n10 : ¬ w_STARTED = w_STARTING) (n20 : ¬ w_STOPPING = w_STARTING) (n21 : ¬ w_STOPPING = w_STARTED) (n30 : ¬ w_STOPPED = w_STARTING) (n31 : ¬ w_STOPPED = w_STARTED) (n32 : ¬ w_STOPPED = w_STOPPING) (n40 : ¬ w_FAILED = w_STARTING) (n41 : ¬ w_FAILED = w_STARTED) (n42 : ¬ w_FAILED = w_STOPPING) (n50 : ¬ w_COMPLETED = w_STARTING) (n51 : ¬ w_COMPLETED = w_STARTED) (n52 : ¬ w_COMPLETED = w_STOPPING) (n60 : ¬ w_ABANDONED = w_STARTING) (n61 : ¬ w_ABANDONED = w_STARTED) (n62 : ¬ w_ABANDONED = w_STOPPING) (n70 : ¬ w_UNKNOWN = w_STARTING) (n71 : ¬ w_UNKNOWN = w_STARTED) (n72 : ¬ w_UNKNOWN = w_STOPPING) (k : Int32) : isRun w_STARTING w_STARTED w_STOPPING (pk w_STARTING w_STARTED w_STOPPING w_STOPPED w_FAILED w_COMPLETED w_ABANDONED w_UNKNOWN k) = exRun k := by
  unfold pk exRun
  repeat' split
  all_goals simp_all [isRun]
theorem d1_0 : decode method_2_code 0 = .ok (.iload_n 0, 1) := by decide +kernel
theorem d1_1 : decode method_2_code 1 = .ok (.ifCond .ne 7, 3) := by decide +kernel
theorem d1_4 : decode method_2_code 4 = .ok (.getstatic 7, 3) := by decide +kernel
theorem d1_7 : decode method_2_code 7 = .ok (.areturn, 1) := by decide +kernel
theorem d1_8 : decode method_2_code 8 = .ok (.iload_n 0, 1) := by decide +kernel
theorem d1_9 : decode method_2_code 9 = .ok (.iconst 1, 1) := by decide +kernel
theorem d1_10 : decode method_2_code 10 = .ok (.if_icmp .ne 7, 3) := by decide +kernel
theorem d1_13 : decode method_2_code 13 = .ok (.getstatic 13, 3) := by decide +kernel
theorem d1_16 : decode method_2_code 16 = .ok (.areturn, 1) := by decide +kernel
theorem d1_17 : decode method_2_code 17 = .ok (.iload_n 0, 1) := by decide +kernel
theorem d1_18 : decode method_2_code 18 = .ok (.iconst 2, 1) := by decide +kernel
theorem d1_19 : decode method_2_code 19 = .ok (.if_icmp .ne 7, 3) := by decide +kernel
theorem d1_22 : decode method_2_code 22 = .ok (.getstatic 16, 3) := by decide +kernel
theorem d1_25 : decode method_2_code 25 = .ok (.areturn, 1) := by decide +kernel
theorem d1_26 : decode method_2_code 26 = .ok (.iload_n 0, 1) := by decide +kernel
theorem d1_27 : decode method_2_code 27 = .ok (.iconst 3, 1) := by decide +kernel
theorem d1_28 : decode method_2_code 28 = .ok (.if_icmp .ne 7, 3) := by decide +kernel
theorem d1_31 : decode method_2_code 31 = .ok (.getstatic 19, 3) := by decide +kernel
theorem d1_34 : decode method_2_code 34 = .ok (.areturn, 1) := by decide +kernel
theorem d1_35 : decode method_2_code 35 = .ok (.iload_n 0, 1) := by decide +kernel
theorem d1_36 : decode method_2_code 36 = .ok (.iconst 4, 1) := by decide +kernel
theorem d1_37 : decode method_2_code 37 = .ok (.if_icmp .ne 7, 3) := by decide +kernel
theorem d1_40 : decode method_2_code 40 = .ok (.getstatic 22, 3) := by decide +kernel
theorem d1_43 : decode method_2_code 43 = .ok (.areturn, 1) := by decide +kernel
theorem d1_44 : decode method_2_code 44 = .ok (.iload_n 0, 1) := by decide +kernel
theorem d1_45 : decode method_2_code 45 = .ok (.iconst 5, 1) := by decide +kernel
theorem d1_46 : decode method_2_code 46 = .ok (.if_icmp .ne 7, 3) := by decide +kernel
theorem d1_49 : decode method_2_code 49 = .ok (.getstatic 25, 3) := by decide +kernel
theorem d1_52 : decode method_2_code 52 = .ok (.areturn, 1) := by decide +kernel
theorem d1_53 : decode method_2_code 53 = .ok (.iload_n 0, 1) := by decide +kernel
theorem d1_54 : decode method_2_code 54 = .ok (.bipush 6, 2) := by decide +kernel
theorem d1_56 : decode method_2_code 56 = .ok (.if_icmp .ne 7, 3) := by decide +kernel
theorem d1_59 : decode method_2_code 59 = .ok (.getstatic 28, 3) := by decide +kernel
theorem d1_62 : decode method_2_code 62 = .ok (.areturn, 1) := by decide +kernel
theorem d1_63 : decode method_2_code 63 = .ok (.getstatic 31, 3) := by decide +kernel
theorem d1_66 : decode method_2_code 66 = .ok (.areturn, 1) := by decide +kernel
theorem pn_1 : plainName "com/example/ajo/ajo/BatchStatusIsRunningPinLaw" = true := by first | (simp [plainName, overriddenIn]; done) | decide +kernel
theorem ef_1 (m : MethodId) (p0 : Int32) : entryFrame m #[(.int p0)] 1 = mkF m 0 #[.val (.int p0)] [] := by first | (simp [entryFrame, mkF, argsToLocals, Value.category]; done) | rfl
def Q1 (Z : State) (p0 : Int32) (w_STARTING : Addr) (w_STOPPED : Addr) (w_STARTED : Addr) (w_STOPPING : Addr) (w_ABANDONED : Addr) (w_UNKNOWN : Addr) (w_FAILED : Addr) (w_COMPLETED : Addr) (h0 : Heap) (n0 : Nat) (v : Option Value) (h : Heap) (L : List Loc) : Prop := v = some (.ref (pk w_STARTING w_STARTED w_STOPPING w_STOPPED w_FAILED w_COMPLETED w_ABANDONED w_UNKNOWN p0)) ∧ Fr n0 L ∧ h = h0
set_option maxRecDepth 65536 in
set_option maxHeartbeats 40000000 in
theorem rm1 (l : Launch) (Z : State) (a0 : Array Value) (hw : ∀ d ∈ tables_1, d.before a0 Z = true) (ws : List Jvm.Cond) (p0 : Int32) (w_STARTING : Addr) (w_STOPPED : Addr) (w_STARTED : Addr) (w_STOPPING : Addr) (w_ABANDONED : Addr) (w_UNKNOWN : Addr) (w_FAILED : Addr) (w_COMPLETED : Addr) (h0 : Heap) (n0 : Nat) (Z0 : n0 ≤ h0.size) (S_STARTING : Sta Z h0 "com/example/ajo/ajo/BatchStatus" "STARTING" "Lcom/example/ajo/ajo/BatchStatus;" (.ref w_STARTING)) (S_STOPPED : Sta Z h0 "com/example/ajo/ajo/BatchStatus" "STOPPED" "Lcom/example/ajo/ajo/BatchStatus;" (.ref w_STOPPED)) (S_STARTED : Sta Z h0 "com/example/ajo/ajo/BatchStatus" "STARTED" "Lcom/example/ajo/ajo/BatchStatus;" (.ref w_STARTED)) (S_STOPPING : Sta Z h0 "com/example/ajo/ajo/BatchStatus" "STOPPING" "Lcom/example/ajo/ajo/BatchStatus;" (.ref w_STOPPING)) (S_ABANDONED : Sta Z h0 "com/example/ajo/ajo/BatchStatus" "ABANDONED" "Lcom/example/ajo/ajo/BatchStatus;" (.ref w_ABANDONED)) (S_UNKNOWN : Sta Z h0 "com/example/ajo/ajo/BatchStatus" "UNKNOWN" "Lcom/example/ajo/ajo/BatchStatus;" (.ref w_UNKNOWN)) (S_FAILED : Sta Z h0 "com/example/ajo/ajo/BatchStatus" "FAILED" "Lcom/example/ajo/ajo/BatchStatus;" (.ref w_FAILED)) (S_COMPLETED : Sta Z h0 "com/example/ajo/ajo/BatchStatus" "COMPLETED" "Lcom/example/ajo/ajo/BatchStatus;" (.ref w_COMPLETED)) (E_STARTING : Exa Z h0 w_STARTING "com/example/ajo/ajo/BatchStatus") (E_STOPPED : Exa Z h0 w_STOPPED "com/example/ajo/ajo/BatchStatus") (E_STARTED : Exa Z h0 w_STARTED "com/example/ajo/ajo/BatchStatus") (E_STOPPING : Exa Z h0 w_STOPPING "com/example/ajo/ajo/BatchStatus") (E_ABANDONED : Exa Z h0 w_ABANDONED "com/example/ajo/ajo/BatchStatus") (E_UNKNOWN : Exa Z h0 w_UNKNOWN "com/example/ajo/ajo/BatchStatus") (E_FAILED : Exa Z h0 w_FAILED "com/example/ajo/ajo/BatchStatus") (E_COMPLETED : Exa Z h0 w_COMPLETED "com/example/ajo/ajo/BatchStatus") (O_STARTING_ordinal : Fld Z h0 w_STARTING "java/lang/Enum" "ordinal" "I" (.int (0 : Int32))) (O_STOPPED_ordinal : Fld Z h0 w_STOPPED "java/lang/Enum" "ordinal" "I" (.int (3 : Int32))) (O_STARTED_ordinal : Fld Z h0 w_STARTED "java/lang/Enum" "ordinal" "I" (.int (1 : Int32))) (O_STOPPING_ordinal : Fld Z h0 w_STOPPING "java/lang/Enum" "ordinal" "I" (.int (2 : Int32))) (O_ABANDONED_ordinal : Fld Z h0 w_ABANDONED "java/lang/Enum" "ordinal" "I" (.int (6 : Int32))) (O_UNKNOWN_ordinal : Fld Z h0 w_UNKNOWN "java/lang/Enum" "ordinal" "I" (.int (7 : Int32))) (O_FAILED_ordinal : Fld Z h0 w_FAILED "java/lang/Enum" "ordinal" "I" (.int (4 : Int32))) (O_COMPLETED_ordinal : Fld Z h0 w_COMPLETED "java/lang/Enum" "ordinal" "I" (.int (5 : Int32))) :
    MetFree l (⟨"com/example/ajo/ajo/BatchStatusIsRunningPinLaw", "pick", "(I)Lcom/example/ajo/ajo/BatchStatus;"⟩ : MethodName) (head1 (Jvm.Cond.code (⟨"com/example/ajo/ajo/BatchStatusIsRunningPinLaw", "pick", "(I)Lcom/example/ajo/ajo/BatchStatus;"⟩ : MethodName) method_2_code 1 (some (.object "com/example/ajo/ajo/BatchStatus")) :: ws) ({ frames := 0, cells := 0, slots := 0, locals := 0 } : Room)) (fun a U => a = #[(.int p0)] ∧ Z.Warmed39 U.vm ∧ U.heap = h0) (fun _ _ _ _ _ => True) (fun _ U o U' => ∃ v L, o = .returned v ∧ Q1 Z p0 w_STARTING w_STOPPED w_STARTED w_STOPPING w_ABANDONED w_UNKNOWN w_FAILED w_COMPLETED h0 n0 v U'.heap L ∧ FrameEnd U o U' L ({ frames := 0, cells := 0, slots := 0, locals := 0 } : Room).cells ({ frames := 0, cells := 0, slots := 0, locals := 0 } : Room).slots) := by
  refine MetFree.of_bodySF (plainFor_of_name pn_1) hisR ?_
  intro p e s m args below meth c s₁ Bd hml0 hP hK
  obtain ⟨rfl, hZ, hh⟩ := hP
  have hx := Bd.exec
  have hby := Bd.bytes
  have hml : c.maxLocals = 1 := hml0
  have hown : s.vm.findClass "com/example/ajo/ajo/BatchStatusIsRunningPinLaw" = some m.cls := findClass_of_methodNamed Bd.named
  have hnm := (name_of_methodNamed Bd.named Bd.method).1
  have X0 : Stand p l e ({ frames := 0, cells := 0, slots := 0, locals := 0 } : Room) s m #[(.int p0)] below meth c s₁ [] 0 0 := Stand.of_body Bd
  have e0 : s₁.heap = h0 := by rw [← hh, Bd.state]; rfl
  have N0 := Fr.nil n0
  refine own_go (A' := (s₁.setTop (mkF m 0 #[.val (.int p0)] []))) (fun t k => castTop (ef_1 m p0) k) ?_
  refine own_go (A' := (s₁.setTop (mkF m 1 #[.val (.int p0)] [(.int p0)]))) (fun t k => ?_) ?_
  · show Steps p.tables e below (s₁.setTop (mkF m 0 #[.val (.int p0)] [])) _
    refine XS.iloadN X0.here hx rfl (hb hby d1_0) rfl ?_
    exact k
  by_cases hc1 : p0 = (0 : Int32)
  · -- hc1: yes
    refine own_go (A' := (s₁.setTop (mkF m 4 #[.val (.int p0)] []))) (fun t k => XS.ifNo X0.here hx rfl (hb hby d1_1) rfl ((if0 _ _).trans (teq hc1).2) k) ?_
    obtain ⟨T2, X2, e2, st2⟩ := getS2 X0 hx hZ hown (host := "") (Or.inl (hw _ (List.mem_of_getElem? (i := 4) rfl))) Via.refl e0 S_STARTING (g := (mkF m 4 #[.val (.int p0)] [])) rfl (hb hby d1_4)
    refine own_go (A' := (T2.setTop (mkF m 7 #[.val (.int p0)] [(.ref w_STARTING)]))) (fun t k => ?_) ?_
    · show Steps p.tables e below (s₁.setTop (mkF m 4 #[.val (.int p0)] [])) _
      refine st2 _ ?_
      exact k
    obtain ⟨fs, hr, hrun, hended, hW, hsame⟩ := X2.leave (v := some (.ref w_STARTING)) (fun h => by rw [Bd.returns] at h; cases h)
    refine ⟨_, _, ?_, hrun, hended, _, _, rfl, ?_, ⟨_, rfl⟩, hW, hsame.mono (by decide) (by decide)⟩
    · show Steps p.tables e below (T2.setTop (mkF m 7 #[.val (.int p0)] [(.ref w_STARTING)])) _
      exact own_retV X2 hx Bd.returns rfl rfl (hb hby d1_7) hr
    · show Q1 Z p0 w_STARTING w_STOPPED w_STARTED w_STOPPING w_ABANDONED w_UNKNOWN w_FAILED w_COMPLETED h0 n0 _ _ _
      exact ⟨(by rw [pk, if_pos hc1]), N0, e2⟩
  · -- hc1: no
    refine own_go (A' := (s₁.setTop (mkF m 8 #[.val (.int p0)] []))) (fun t k => XS.ifYes X0.here hx rfl (pc0 := 1) (pc' := 8) rfl (hb hby d1_1) rfl ((if0 _ _).trans (feq hc1).2) (by decide) (by decide) k) ?_
    refine own_go (A' := (s₁.setTop (mkF m 10 #[.val (.int p0)] [(.int (1 : Int32)), (.int p0)]))) (fun t k => ?_) ?_
    · show Steps p.tables e below (s₁.setTop (mkF m 8 #[.val (.int p0)] [])) _
      refine XS.iloadN X0.here hx rfl (hb hby d1_8) rfl ?_
      show Steps p.tables e below (s₁.setTop (mkF m 9 #[.val (.int p0)] [(.int p0)])) _
      refine XS.iconst X0.here hx rfl (hb hby d1_9) ?_
      exact k
    by_cases hc3 : p0 = (1 : Int32)
    · -- hc3: yes
      refine own_go (A' := (s₁.setTop (mkF m 13 #[.val (.int p0)] []))) (fun t k => XS.icmpNo X0.here hx rfl (hb hby d1_10) rfl (teq hc3).2 k) ?_
      obtain ⟨T4, X4, e4, st4⟩ := getS2 X0 hx hZ hown (host := "") (Or.inl (hw _ (List.mem_of_getElem? (i := 27) rfl))) Via.refl e0 S_STARTED (g := (mkF m 13 #[.val (.int p0)] [])) rfl (hb hby d1_13)
      refine own_go (A' := (T4.setTop (mkF m 16 #[.val (.int p0)] [(.ref w_STARTED)]))) (fun t k => ?_) ?_
      · show Steps p.tables e below (s₁.setTop (mkF m 13 #[.val (.int p0)] [])) _
        refine st4 _ ?_
        exact k
      obtain ⟨fs, hr, hrun, hended, hW, hsame⟩ := X4.leave (v := some (.ref w_STARTED)) (fun h => by rw [Bd.returns] at h; cases h)
      refine ⟨_, _, ?_, hrun, hended, _, _, rfl, ?_, ⟨_, rfl⟩, hW, hsame.mono (by decide) (by decide)⟩
      · show Steps p.tables e below (T4.setTop (mkF m 16 #[.val (.int p0)] [(.ref w_STARTED)])) _
        exact own_retV X4 hx Bd.returns rfl rfl (hb hby d1_16) hr
      · show Q1 Z p0 w_STARTING w_STOPPED w_STARTED w_STOPPING w_ABANDONED w_UNKNOWN w_FAILED w_COMPLETED h0 n0 _ _ _
        exact ⟨(by rw [pk, if_neg hc1, if_pos hc3]), N0, e4⟩
    · -- hc3: no
      refine own_go (A' := (s₁.setTop (mkF m 17 #[.val (.int p0)] []))) (fun t k => XS.icmpYes X0.here hx rfl (pc0 := 10) (pc' := 17) rfl (hb hby d1_10) rfl (feq hc3).2 (by decide) (by decide) k) ?_
      refine own_go (A' := (s₁.setTop (mkF m 19 #[.val (.int p0)] [(.int (2 : Int32)), (.int p0)]))) (fun t k => ?_) ?_
      · show Steps p.tables e below (s₁.setTop (mkF m 17 #[.val (.int p0)] [])) _
        refine XS.iloadN X0.here hx rfl (hb hby d1_17) rfl ?_
        show Steps p.tables e below (s₁.setTop (mkF m 18 #[.val (.int p0)] [(.int p0)])) _
        refine XS.iconst X0.here hx rfl (hb hby d1_18) ?_
        exact k
      by_cases hc5 : p0 = (2 : Int32)
      · -- hc5: yes
        refine own_go (A' := (s₁.setTop (mkF m 22 #[.val (.int p0)] []))) (fun t k => XS.icmpNo X0.here hx rfl (hb hby d1_19) rfl (teq hc5).2 k) ?_
        obtain ⟨T6, X6, e6, st6⟩ := getS2 X0 hx hZ hown (host := "") (Or.inl (hw _ (List.mem_of_getElem? (i := 26) rfl))) Via.refl e0 S_STOPPING (g := (mkF m 22 #[.val (.int p0)] [])) rfl (hb hby d1_22)
        refine own_go (A' := (T6.setTop (mkF m 25 #[.val (.int p0)] [(.ref w_STOPPING)]))) (fun t k => ?_) ?_
        · show Steps p.tables e below (s₁.setTop (mkF m 22 #[.val (.int p0)] [])) _
          refine st6 _ ?_
          exact k
        obtain ⟨fs, hr, hrun, hended, hW, hsame⟩ := X6.leave (v := some (.ref w_STOPPING)) (fun h => by rw [Bd.returns] at h; cases h)
        refine ⟨_, _, ?_, hrun, hended, _, _, rfl, ?_, ⟨_, rfl⟩, hW, hsame.mono (by decide) (by decide)⟩
        · show Steps p.tables e below (T6.setTop (mkF m 25 #[.val (.int p0)] [(.ref w_STOPPING)])) _
          exact own_retV X6 hx Bd.returns rfl rfl (hb hby d1_25) hr
        · show Q1 Z p0 w_STARTING w_STOPPED w_STARTED w_STOPPING w_ABANDONED w_UNKNOWN w_FAILED w_COMPLETED h0 n0 _ _ _
          exact ⟨(by rw [pk, if_neg hc1, if_neg hc3, if_pos hc5]), N0, e6⟩
      · -- hc5: no
        refine own_go (A' := (s₁.setTop (mkF m 26 #[.val (.int p0)] []))) (fun t k => XS.icmpYes X0.here hx rfl (pc0 := 19) (pc' := 26) rfl (hb hby d1_19) rfl (feq hc5).2 (by decide) (by decide) k) ?_
        refine own_go (A' := (s₁.setTop (mkF m 28 #[.val (.int p0)] [(.int (3 : Int32)), (.int p0)]))) (fun t k => ?_) ?_
        · show Steps p.tables e below (s₁.setTop (mkF m 26 #[.val (.int p0)] [])) _
          refine XS.iloadN X0.here hx rfl (hb hby d1_26) rfl ?_
          show Steps p.tables e below (s₁.setTop (mkF m 27 #[.val (.int p0)] [(.int p0)])) _
          refine XS.iconst X0.here hx rfl (hb hby d1_27) ?_
          exact k
        by_cases hc7 : p0 = (3 : Int32)
        · -- hc7: yes
          refine own_go (A' := (s₁.setTop (mkF m 31 #[.val (.int p0)] []))) (fun t k => XS.icmpNo X0.here hx rfl (hb hby d1_28) rfl (teq hc7).2 k) ?_
          obtain ⟨T8, X8, e8, st8⟩ := getS2 X0 hx hZ hown (host := "") (Or.inl (hw _ (List.mem_of_getElem? (i := 16) rfl))) Via.refl e0 S_STOPPED (g := (mkF m 31 #[.val (.int p0)] [])) rfl (hb hby d1_31)
          refine own_go (A' := (T8.setTop (mkF m 34 #[.val (.int p0)] [(.ref w_STOPPED)]))) (fun t k => ?_) ?_
          · show Steps p.tables e below (s₁.setTop (mkF m 31 #[.val (.int p0)] [])) _
            refine st8 _ ?_
            exact k
          obtain ⟨fs, hr, hrun, hended, hW, hsame⟩ := X8.leave (v := some (.ref w_STOPPED)) (fun h => by rw [Bd.returns] at h; cases h)
          refine ⟨_, _, ?_, hrun, hended, _, _, rfl, ?_, ⟨_, rfl⟩, hW, hsame.mono (by decide) (by decide)⟩
          · show Steps p.tables e below (T8.setTop (mkF m 34 #[.val (.int p0)] [(.ref w_STOPPED)])) _
            exact own_retV X8 hx Bd.returns rfl rfl (hb hby d1_34) hr
          · show Q1 Z p0 w_STARTING w_STOPPED w_STARTED w_STOPPING w_ABANDONED w_UNKNOWN w_FAILED w_COMPLETED h0 n0 _ _ _
            exact ⟨(by rw [pk, if_neg hc1, if_neg hc3, if_neg hc5, if_pos hc7]), N0, e8⟩
        · -- hc7: no
          refine own_go (A' := (s₁.setTop (mkF m 35 #[.val (.int p0)] []))) (fun t k => XS.icmpYes X0.here hx rfl (pc0 := 28) (pc' := 35) rfl (hb hby d1_28) rfl (feq hc7).2 (by decide) (by decide) k) ?_
          refine own_go (A' := (s₁.setTop (mkF m 37 #[.val (.int p0)] [(.int (4 : Int32)), (.int p0)]))) (fun t k => ?_) ?_
          · show Steps p.tables e below (s₁.setTop (mkF m 35 #[.val (.int p0)] [])) _
            refine XS.iloadN X0.here hx rfl (hb hby d1_35) rfl ?_
            show Steps p.tables e below (s₁.setTop (mkF m 36 #[.val (.int p0)] [(.int p0)])) _
            refine XS.iconst X0.here hx rfl (hb hby d1_36) ?_
            exact k
          by_cases hc9 : p0 = (4 : Int32)
          · -- hc9: yes
            refine own_go (A' := (s₁.setTop (mkF m 40 #[.val (.int p0)] []))) (fun t k => XS.icmpNo X0.here hx rfl (hb hby d1_37) rfl (teq hc9).2 k) ?_
            obtain ⟨T10, X10, e10, st10⟩ := getS2 X0 hx hZ hown (host := "") (Or.inl (hw _ (List.mem_of_getElem? (i := 28) rfl))) Via.refl e0 S_FAILED (g := (mkF m 40 #[.val (.int p0)] [])) rfl (hb hby d1_40)
            refine own_go (A' := (T10.setTop (mkF m 43 #[.val (.int p0)] [(.ref w_FAILED)]))) (fun t k => ?_) ?_
            · show Steps p.tables e below (s₁.setTop (mkF m 40 #[.val (.int p0)] [])) _
              refine st10 _ ?_
              exact k
            obtain ⟨fs, hr, hrun, hended, hW, hsame⟩ := X10.leave (v := some (.ref w_FAILED)) (fun h => by rw [Bd.returns] at h; cases h)
            refine ⟨_, _, ?_, hrun, hended, _, _, rfl, ?_, ⟨_, rfl⟩, hW, hsame.mono (by decide) (by decide)⟩
            · show Steps p.tables e below (T10.setTop (mkF m 43 #[.val (.int p0)] [(.ref w_FAILED)])) _
              exact own_retV X10 hx Bd.returns rfl rfl (hb hby d1_43) hr
            · show Q1 Z p0 w_STARTING w_STOPPED w_STARTED w_STOPPING w_ABANDONED w_UNKNOWN w_FAILED w_COMPLETED h0 n0 _ _ _
              exact ⟨(by rw [pk, if_neg hc1, if_neg hc3, if_neg hc5, if_neg hc7, if_pos hc9]), N0, e10⟩
          · -- hc9: no
            refine own_go (A' := (s₁.setTop (mkF m 44 #[.val (.int p0)] []))) (fun t k => XS.icmpYes X0.here hx rfl (pc0 := 37) (pc' := 44) rfl (hb hby d1_37) rfl (feq hc9).2 (by decide) (by decide) k) ?_
            refine own_go (A' := (s₁.setTop (mkF m 46 #[.val (.int p0)] [(.int (5 : Int32)), (.int p0)]))) (fun t k => ?_) ?_
            · show Steps p.tables e below (s₁.setTop (mkF m 44 #[.val (.int p0)] [])) _
              refine XS.iloadN X0.here hx rfl (hb hby d1_44) rfl ?_
              show Steps p.tables e below (s₁.setTop (mkF m 45 #[.val (.int p0)] [(.int p0)])) _
              refine XS.iconst X0.here hx rfl (hb hby d1_45) ?_
              exact k
            by_cases hc11 : p0 = (5 : Int32)
            · -- hc11: yes
              refine own_go (A' := (s₁.setTop (mkF m 49 #[.val (.int p0)] []))) (fun t k => XS.icmpNo X0.here hx rfl (hb hby d1_46) rfl (teq hc11).2 k) ?_
              obtain ⟨T12, X12, e12, st12⟩ := getS2 X0 hx hZ hown (host := "") (Or.inl (hw _ (List.mem_of_getElem? (i := 30) rfl))) Via.refl e0 S_COMPLETED (g := (mkF m 49 #[.val (.int p0)] [])) rfl (hb hby d1_49)
              refine own_go (A' := (T12.setTop (mkF m 52 #[.val (.int p0)] [(.ref w_COMPLETED)]))) (fun t k => ?_) ?_
              · show Steps p.tables e below (s₁.setTop (mkF m 49 #[.val (.int p0)] [])) _
                refine st12 _ ?_
                exact k
              obtain ⟨fs, hr, hrun, hended, hW, hsame⟩ := X12.leave (v := some (.ref w_COMPLETED)) (fun h => by rw [Bd.returns] at h; cases h)
              refine ⟨_, _, ?_, hrun, hended, _, _, rfl, ?_, ⟨_, rfl⟩, hW, hsame.mono (by decide) (by decide)⟩
              · show Steps p.tables e below (T12.setTop (mkF m 52 #[.val (.int p0)] [(.ref w_COMPLETED)])) _
                exact own_retV X12 hx Bd.returns rfl rfl (hb hby d1_52) hr
              · show Q1 Z p0 w_STARTING w_STOPPED w_STARTED w_STOPPING w_ABANDONED w_UNKNOWN w_FAILED w_COMPLETED h0 n0 _ _ _
                exact ⟨(by rw [pk, if_neg hc1, if_neg hc3, if_neg hc5, if_neg hc7, if_neg hc9, if_pos hc11]), N0, e12⟩
            · -- hc11: no
              refine own_go (A' := (s₁.setTop (mkF m 53 #[.val (.int p0)] []))) (fun t k => XS.icmpYes X0.here hx rfl (pc0 := 46) (pc' := 53) rfl (hb hby d1_46) rfl (feq hc11).2 (by decide) (by decide) k) ?_
              refine own_go (A' := (s₁.setTop (mkF m 56 #[.val (.int p0)] [(.int (6 : Int32)), (.int p0)]))) (fun t k => ?_) ?_
              · show Steps p.tables e below (s₁.setTop (mkF m 53 #[.val (.int p0)] [])) _
                refine XS.iloadN X0.here hx rfl (hb hby d1_53) rfl ?_
                show Steps p.tables e below (s₁.setTop (mkF m 54 #[.val (.int p0)] [(.int p0)])) _
                refine XS.bipush X0.here hx rfl (hb hby d1_54) ?_
                exact k
              by_cases hc13 : p0 = (6 : Int32)
              · -- hc13: yes
                refine own_go (A' := (s₁.setTop (mkF m 59 #[.val (.int p0)] []))) (fun t k => XS.icmpNo X0.here hx rfl (hb hby d1_56) rfl (teq hc13).2 k) ?_
                obtain ⟨T14, X14, e14, st14⟩ := getS2 X0 hx hZ hown (host := "") (Or.inl (hw _ (List.mem_of_getElem? (i := 22) rfl))) Via.refl e0 S_ABANDONED (g := (mkF m 59 #[.val (.int p0)] [])) rfl (hb hby d1_59)
                refine own_go (A' := (T14.setTop (mkF m 62 #[.val (.int p0)] [(.ref w_ABANDONED)]))) (fun t k => ?_) ?_
                · show Steps p.tables e below (s₁.setTop (mkF m 59 #[.val (.int p0)] [])) _
                  refine st14 _ ?_
                  exact k
                obtain ⟨fs, hr, hrun, hended, hW, hsame⟩ := X14.leave (v := some (.ref w_ABANDONED)) (fun h => by rw [Bd.returns] at h; cases h)
                refine ⟨_, _, ?_, hrun, hended, _, _, rfl, ?_, ⟨_, rfl⟩, hW, hsame.mono (by decide) (by decide)⟩
                · show Steps p.tables e below (T14.setTop (mkF m 62 #[.val (.int p0)] [(.ref w_ABANDONED)])) _
                  exact own_retV X14 hx Bd.returns rfl rfl (hb hby d1_62) hr
                · show Q1 Z p0 w_STARTING w_STOPPED w_STARTED w_STOPPING w_ABANDONED w_UNKNOWN w_FAILED w_COMPLETED h0 n0 _ _ _
                  exact ⟨(by rw [pk, if_neg hc1, if_neg hc3, if_neg hc5, if_neg hc7, if_neg hc9, if_neg hc11, if_pos hc13]), N0, e14⟩
              · -- hc13: no
                refine own_go (A' := (s₁.setTop (mkF m 63 #[.val (.int p0)] []))) (fun t k => XS.icmpYes X0.here hx rfl (pc0 := 56) (pc' := 63) rfl (hb hby d1_56) rfl (feq hc13).2 (by decide) (by decide) k) ?_
                obtain ⟨T15, X15, e15, st15⟩ := getS2 X0 hx hZ hown (host := "") (Or.inl (hw _ (List.mem_of_getElem? (i := 24) rfl))) Via.refl e0 S_UNKNOWN (g := (mkF m 63 #[.val (.int p0)] [])) rfl (hb hby d1_63)
                refine own_go (A' := (T15.setTop (mkF m 66 #[.val (.int p0)] [(.ref w_UNKNOWN)]))) (fun t k => ?_) ?_
                · show Steps p.tables e below (s₁.setTop (mkF m 63 #[.val (.int p0)] [])) _
                  refine st15 _ ?_
                  exact k
                obtain ⟨fs, hr, hrun, hended, hW, hsame⟩ := X15.leave (v := some (.ref w_UNKNOWN)) (fun h => by rw [Bd.returns] at h; cases h)
                refine ⟨_, _, ?_, hrun, hended, _, _, rfl, ?_, ⟨_, rfl⟩, hW, hsame.mono (by decide) (by decide)⟩
                · show Steps p.tables e below (T15.setTop (mkF m 66 #[.val (.int p0)] [(.ref w_UNKNOWN)])) _
                  exact own_retV X15 hx Bd.returns rfl rfl (hb hby d1_66) hr
                · show Q1 Z p0 w_STARTING w_STOPPED w_STARTED w_STOPPING w_ABANDONED w_UNKNOWN w_FAILED w_COMPLETED h0 n0 _ _ _
                  exact ⟨(by rw [pk, if_neg hc1, if_neg hc3, if_neg hc5, if_neg hc7, if_neg hc9, if_neg hc11, if_neg hc13]), N0, e15⟩
theorem d2_0 : decode prog_1_method_4_code 0 = .ok (.aload_n 0, 1) := by decide +kernel
theorem d2_1 : decode prog_1_method_4_code 1 = .ok (.getstatic 3, 3) := by decide +kernel
theorem d2_4 : decode prog_1_method_4_code 4 = .ok (.if_acmp .eq 17, 3) := by decide +kernel
theorem d2_7 : decode prog_1_method_4_code 7 = .ok (.aload_n 0, 1) := by decide +kernel
theorem d2_8 : decode prog_1_method_4_code 8 = .ok (.getstatic 7, 3) := by decide +kernel
theorem d2_11 : decode prog_1_method_4_code 11 = .ok (.if_acmp .eq 10, 3) := by decide +kernel
theorem d2_14 : decode prog_1_method_4_code 14 = .ok (.aload_n 0, 1) := by decide +kernel
theorem d2_15 : decode prog_1_method_4_code 15 = .ok (.getstatic 10, 3) := by decide +kernel
theorem d2_18 : decode prog_1_method_4_code 18 = .ok (.if_acmp .ne 7, 3) := by decide +kernel
theorem d2_21 : decode prog_1_method_4_code 21 = .ok (.iconst 1, 1) := by decide +kernel
theorem d2_22 : decode prog_1_method_4_code 22 = .ok (.goto 4, 3) := by decide +kernel
theorem d2_25 : decode prog_1_method_4_code 25 = .ok (.iconst 0, 1) := by decide +kernel
theorem d2_26 : decode prog_1_method_4_code 26 = .ok (.ireturn, 1) := by decide +kernel
theorem pn_2 : plainName "com/example/ajo/ajo/BatchStatus" = true := by first | (simp [plainName, overriddenIn]; done) | decide +kernel
theorem ef_2 (m : MethodId) (r0 : Addr) : entryFrame m #[(.ref r0)] 1 = mkF m 0 #[.val (.ref r0)] [] := by first | (simp [entryFrame, mkF, argsToLocals, Value.category]; done) | rfl
def Q2 (Z : State) (r0 : Addr) (w_STARTING : Addr) (w_STOPPED : Addr) (w_STARTED : Addr) (w_STOPPING : Addr) (w_ABANDONED : Addr) (w_UNKNOWN : Addr) (w_FAILED : Addr) (w_COMPLETED : Addr) (h0 : Heap) (n0 : Nat) (v : Option Value) (h : Heap) (L : List Loc) : Prop := v = some (.int (isRun w_STARTING w_STARTED w_STOPPING r0)) ∧ Fr n0 L ∧ h = h0
set_option maxRecDepth 65536 in
set_option maxHeartbeats 40000000 in
theorem rm2 (l : Launch) (Z : State) (a0 : Array Value) (hw : ∀ d ∈ tables_1, d.before a0 Z = true) (ws : List Jvm.Cond) (r0 : Addr) (w_STARTING : Addr) (w_STOPPED : Addr) (w_STARTED : Addr) (w_STOPPING : Addr) (w_ABANDONED : Addr) (w_UNKNOWN : Addr) (w_FAILED : Addr) (w_COMPLETED : Addr) (h0 : Heap) (n0 : Nat) (Z0 : n0 ≤ h0.size) (S_STARTING : Sta Z h0 "com/example/ajo/ajo/BatchStatus" "STARTING" "Lcom/example/ajo/ajo/BatchStatus;" (.ref w_STARTING)) (S_STOPPED : Sta Z h0 "com/example/ajo/ajo/BatchStatus" "STOPPED" "Lcom/example/ajo/ajo/BatchStatus;" (.ref w_STOPPED)) (S_STARTED : Sta Z h0 "com/example/ajo/ajo/BatchStatus" "STARTED" "Lcom/example/ajo/ajo/BatchStatus;" (.ref w_STARTED)) (S_STOPPING : Sta Z h0 "com/example/ajo/ajo/BatchStatus" "STOPPING" "Lcom/example/ajo/ajo/BatchStatus;" (.ref w_STOPPING)) (S_ABANDONED : Sta Z h0 "com/example/ajo/ajo/BatchStatus" "ABANDONED" "Lcom/example/ajo/ajo/BatchStatus;" (.ref w_ABANDONED)) (S_UNKNOWN : Sta Z h0 "com/example/ajo/ajo/BatchStatus" "UNKNOWN" "Lcom/example/ajo/ajo/BatchStatus;" (.ref w_UNKNOWN)) (S_FAILED : Sta Z h0 "com/example/ajo/ajo/BatchStatus" "FAILED" "Lcom/example/ajo/ajo/BatchStatus;" (.ref w_FAILED)) (S_COMPLETED : Sta Z h0 "com/example/ajo/ajo/BatchStatus" "COMPLETED" "Lcom/example/ajo/ajo/BatchStatus;" (.ref w_COMPLETED)) (E_STARTING : Exa Z h0 w_STARTING "com/example/ajo/ajo/BatchStatus") (E_STOPPED : Exa Z h0 w_STOPPED "com/example/ajo/ajo/BatchStatus") (E_STARTED : Exa Z h0 w_STARTED "com/example/ajo/ajo/BatchStatus") (E_STOPPING : Exa Z h0 w_STOPPING "com/example/ajo/ajo/BatchStatus") (E_ABANDONED : Exa Z h0 w_ABANDONED "com/example/ajo/ajo/BatchStatus") (E_UNKNOWN : Exa Z h0 w_UNKNOWN "com/example/ajo/ajo/BatchStatus") (E_FAILED : Exa Z h0 w_FAILED "com/example/ajo/ajo/BatchStatus") (E_COMPLETED : Exa Z h0 w_COMPLETED "com/example/ajo/ajo/BatchStatus") (O_STARTING_ordinal : Fld Z h0 w_STARTING "java/lang/Enum" "ordinal" "I" (.int (0 : Int32))) (O_STOPPED_ordinal : Fld Z h0 w_STOPPED "java/lang/Enum" "ordinal" "I" (.int (3 : Int32))) (O_STARTED_ordinal : Fld Z h0 w_STARTED "java/lang/Enum" "ordinal" "I" (.int (1 : Int32))) (O_STOPPING_ordinal : Fld Z h0 w_STOPPING "java/lang/Enum" "ordinal" "I" (.int (2 : Int32))) (O_ABANDONED_ordinal : Fld Z h0 w_ABANDONED "java/lang/Enum" "ordinal" "I" (.int (6 : Int32))) (O_UNKNOWN_ordinal : Fld Z h0 w_UNKNOWN "java/lang/Enum" "ordinal" "I" (.int (7 : Int32))) (O_FAILED_ordinal : Fld Z h0 w_FAILED "java/lang/Enum" "ordinal" "I" (.int (4 : Int32))) (O_COMPLETED_ordinal : Fld Z h0 w_COMPLETED "java/lang/Enum" "ordinal" "I" (.int (5 : Int32))) :
    MetFree l (⟨"com/example/ajo/ajo/BatchStatus", "isRunning", "()Z"⟩ : MethodName) (head1 (Jvm.Cond.code (⟨"com/example/ajo/ajo/BatchStatus", "isRunning", "()Z"⟩ : MethodName) prog_1_method_4_code 1 (some .boolean) :: ws) ({ frames := 0, cells := 0, slots := 0, locals := 0 } : Room)) (fun a U => a = #[(.ref r0)] ∧ Z.Warmed39 U.vm ∧ U.heap = h0) (fun _ _ _ _ _ => True) (fun _ U o U' => ∃ v L, o = .returned v ∧ Q2 Z r0 w_STARTING w_STOPPED w_STARTED w_STOPPING w_ABANDONED w_UNKNOWN w_FAILED w_COMPLETED h0 n0 v U'.heap L ∧ FrameEnd U o U' L ({ frames := 0, cells := 0, slots := 0, locals := 0 } : Room).cells ({ frames := 0, cells := 0, slots := 0, locals := 0 } : Room).slots) := by
  refine MetFree.of_bodySF (plainFor_of_name pn_2) hisR ?_
  intro p e s m args below meth c s₁ Bd hml0 hP hK
  obtain ⟨rfl, hZ, hh⟩ := hP
  have hx := Bd.exec
  have hby := Bd.bytes
  have hml : c.maxLocals = 1 := hml0
  have hown : s.vm.findClass "com/example/ajo/ajo/BatchStatus" = some m.cls := findClass_of_methodNamed Bd.named
  have hnm := (name_of_methodNamed Bd.named Bd.method).1
  have X0 : Stand p l e ({ frames := 0, cells := 0, slots := 0, locals := 0 } : Room) s m #[(.ref r0)] below meth c s₁ [] 0 0 := Stand.of_body Bd
  have e0 : s₁.heap = h0 := by rw [← hh, Bd.state]; rfl
  have N0 := Fr.nil n0
  refine own_go (A' := (s₁.setTop (mkF m 0 #[.val (.ref r0)] []))) (fun t k => castTop (ef_2 m r0) k) ?_
  obtain ⟨T16, X16, e16, st16⟩ := getS2 X0 hx hZ hown (host := "") (Or.inl (hw _ (List.mem_of_getElem? (i := 12) rfl))) Via.refl e0 S_STARTING (g := (mkF m 1 #[.val (.ref r0)] [(.ref r0)])) rfl (hb hby d2_1)
  refine own_go (A' := (T16.setTop (mkF m 4 #[.val (.ref r0)] [(.ref w_STARTING), (.ref r0)]))) (fun t k => ?_) ?_
  · show Steps p.tables e below (s₁.setTop (mkF m 0 #[.val (.ref r0)] [])) _
    refine XS.aloadN X0.here hx rfl (hb hby d2_0) rfl rfl ?_
    show Steps p.tables e below (s₁.setTop (mkF m 1 #[.val (.ref r0)] [(.ref r0)])) _
    refine st16 _ ?_
    exact k
  by_cases hc17 : r0 = w_STARTING
  · -- hc17: yes
    refine own_go (A' := (T16.setTop (mkF m 21 #[.val (.ref r0)] []))) (fun t k => Jvm.RoadKit.acmp (g := (mkF m 4 #[.val (.ref r0)] [(.ref w_STARTING), (.ref r0)])) X16 hx rfl rfl rfl (pc0 := 4) (pc' := 21) (same := true) rfl (hb hby d2_4) rfl (decide_eq_true (congrArg Value.ref hc17)) (by decide) (by decide) k) ?_
    refine own_go (A' := (T16.setTop (mkF m 26 #[.val (.ref r0)] [(.int (1 : Int32))]))) (fun t k => ?_) ?_
    · show Steps p.tables e below (T16.setTop (mkF m 21 #[.val (.ref r0)] [])) _
      refine XS.iconst X16.here hx rfl (hb hby d2_21) ?_
      show Steps p.tables e below (T16.setTop (mkF m 22 #[.val (.ref r0)] [(.int (1 : Int32))])) _
      refine XS.goto X16.here hx rfl (pc0 := 22) (pc' := 26) rfl (hb hby d2_22) (by decide) (by decide) ?_
      exact k
    obtain ⟨fs, hr, hrun, hended, hW, hsame⟩ := X16.leave (v := some (.int (1 : Int32))) (fun h => by rw [Bd.returns] at h; cases h)
    refine ⟨_, _, ?_, hrun, hended, _, _, rfl, ?_, ⟨_, rfl⟩, hW, hsame.mono (by decide) (by decide)⟩
    · show Steps p.tables e below (T16.setTop (mkF m 26 #[.val (.ref r0)] [(.int (1 : Int32))])) _
      exact retN X16 hx (t := .boolean) Bd.returns (by simp) (hb hby d2_26) hr
    · show Q2 Z r0 w_STARTING w_STOPPED w_STARTED w_STOPPING w_ABANDONED w_UNKNOWN w_FAILED w_COMPLETED h0 n0 _ _ _
      exact ⟨(by rw [isRun, if_pos hc17]), N0, e16⟩
  · -- hc17: no
    refine own_go (A' := (T16.setTop (mkF m 7 #[.val (.ref r0)] []))) (fun t k => Jvm.RoadKit.acmp (g := (mkF m 4 #[.val (.ref r0)] [(.ref w_STARTING), (.ref r0)])) X16 hx rfl rfl rfl (pc0 := 4) (pc' := 7) (same := false) rfl (hb hby d2_4) rfl (decide_eq_false fun q => hc17 (Value.ref.inj q)) (by decide) (by decide) k) ?_
    obtain ⟨T18, X18, e18, st18⟩ := getS2 X16 hx hZ hown (host := "") (Or.inl (hw _ (List.mem_of_getElem? (i := 18) rfl))) Via.refl e16 S_STARTED (g := (mkF m 8 #[.val (.ref r0)] [(.ref r0)])) rfl (hb hby d2_8)
    refine own_go (A' := (T18.setTop (mkF m 11 #[.val (.ref r0)] [(.ref w_STARTED), (.ref r0)]))) (fun t k => ?_) ?_
    · show Steps p.tables e below (T16.setTop (mkF m 7 #[.val (.ref r0)] [])) _
      refine XS.aloadN X16.here hx rfl (hb hby d2_7) rfl rfl ?_
      show Steps p.tables e below (T16.setTop (mkF m 8 #[.val (.ref r0)] [(.ref r0)])) _
      refine st18 _ ?_
      exact k
    by_cases hc19 : r0 = w_STARTED
    · -- hc19: yes
      refine own_go (A' := (T18.setTop (mkF m 21 #[.val (.ref r0)] []))) (fun t k => Jvm.RoadKit.acmp (g := (mkF m 11 #[.val (.ref r0)] [(.ref w_STARTED), (.ref r0)])) X18 hx rfl rfl rfl (pc0 := 11) (pc' := 21) (same := true) rfl (hb hby d2_11) rfl (decide_eq_true (congrArg Value.ref hc19)) (by decide) (by decide) k) ?_
      refine own_go (A' := (T18.setTop (mkF m 26 #[.val (.ref r0)] [(.int (1 : Int32))]))) (fun t k => ?_) ?_
      · show Steps p.tables e below (T18.setTop (mkF m 21 #[.val (.ref r0)] [])) _
        refine XS.iconst X18.here hx rfl (hb hby d2_21) ?_
        show Steps p.tables e below (T18.setTop (mkF m 22 #[.val (.ref r0)] [(.int (1 : Int32))])) _
        refine XS.goto X18.here hx rfl (pc0 := 22) (pc' := 26) rfl (hb hby d2_22) (by decide) (by decide) ?_
        exact k
      obtain ⟨fs, hr, hrun, hended, hW, hsame⟩ := X18.leave (v := some (.int (1 : Int32))) (fun h => by rw [Bd.returns] at h; cases h)
      refine ⟨_, _, ?_, hrun, hended, _, _, rfl, ?_, ⟨_, rfl⟩, hW, hsame.mono (by decide) (by decide)⟩
      · show Steps p.tables e below (T18.setTop (mkF m 26 #[.val (.ref r0)] [(.int (1 : Int32))])) _
        exact retN X18 hx (t := .boolean) Bd.returns (by simp) (hb hby d2_26) hr
      · show Q2 Z r0 w_STARTING w_STOPPED w_STARTED w_STOPPING w_ABANDONED w_UNKNOWN w_FAILED w_COMPLETED h0 n0 _ _ _
        exact ⟨(by rw [isRun, if_neg hc17, if_pos hc19]), N0, e18⟩
    · -- hc19: no
      refine own_go (A' := (T18.setTop (mkF m 14 #[.val (.ref r0)] []))) (fun t k => Jvm.RoadKit.acmp (g := (mkF m 11 #[.val (.ref r0)] [(.ref w_STARTED), (.ref r0)])) X18 hx rfl rfl rfl (pc0 := 11) (pc' := 14) (same := false) rfl (hb hby d2_11) rfl (decide_eq_false fun q => hc19 (Value.ref.inj q)) (by decide) (by decide) k) ?_
      obtain ⟨T20, X20, e20, st20⟩ := getS2 X18 hx hZ hown (host := "") (Or.inl (hw _ (List.mem_of_getElem? (i := 20) rfl))) Via.refl e18 S_STOPPING (g := (mkF m 15 #[.val (.ref r0)] [(.ref r0)])) rfl (hb hby d2_15)
      refine own_go (A' := (T20.setTop (mkF m 18 #[.val (.ref r0)] [(.ref w_STOPPING), (.ref r0)]))) (fun t k => ?_) ?_
      · show Steps p.tables e below (T18.setTop (mkF m 14 #[.val (.ref r0)] [])) _
        refine XS.aloadN X18.here hx rfl (hb hby d2_14) rfl rfl ?_
        show Steps p.tables e below (T18.setTop (mkF m 15 #[.val (.ref r0)] [(.ref r0)])) _
        refine st20 _ ?_
        exact k
      by_cases hc21 : r0 = w_STOPPING
      · -- hc21: yes
        refine own_go (A' := (T20.setTop (mkF m 21 #[.val (.ref r0)] []))) (fun t k => Jvm.RoadKit.acmp (g := (mkF m 18 #[.val (.ref r0)] [(.ref w_STOPPING), (.ref r0)])) X20 hx rfl rfl rfl (pc0 := 18) (pc' := 21) (same := true) rfl (hb hby d2_18) rfl (decide_eq_true (congrArg Value.ref hc21)) (by decide) (by decide) k) ?_
        refine own_go (A' := (T20.setTop (mkF m 26 #[.val (.ref r0)] [(.int (1 : Int32))]))) (fun t k => ?_) ?_
        · show Steps p.tables e below (T20.setTop (mkF m 21 #[.val (.ref r0)] [])) _
          refine XS.iconst X20.here hx rfl (hb hby d2_21) ?_
          show Steps p.tables e below (T20.setTop (mkF m 22 #[.val (.ref r0)] [(.int (1 : Int32))])) _
          refine XS.goto X20.here hx rfl (pc0 := 22) (pc' := 26) rfl (hb hby d2_22) (by decide) (by decide) ?_
          exact k
        obtain ⟨fs, hr, hrun, hended, hW, hsame⟩ := X20.leave (v := some (.int (1 : Int32))) (fun h => by rw [Bd.returns] at h; cases h)
        refine ⟨_, _, ?_, hrun, hended, _, _, rfl, ?_, ⟨_, rfl⟩, hW, hsame.mono (by decide) (by decide)⟩
        · show Steps p.tables e below (T20.setTop (mkF m 26 #[.val (.ref r0)] [(.int (1 : Int32))])) _
          exact retN X20 hx (t := .boolean) Bd.returns (by simp) (hb hby d2_26) hr
        · show Q2 Z r0 w_STARTING w_STOPPED w_STARTED w_STOPPING w_ABANDONED w_UNKNOWN w_FAILED w_COMPLETED h0 n0 _ _ _
          exact ⟨(by rw [isRun, if_neg hc17, if_neg hc19, if_pos hc21]), N0, e20⟩
      · -- hc21: no
        refine own_go (A' := (T20.setTop (mkF m 25 #[.val (.ref r0)] []))) (fun t k => Jvm.RoadKit.acmp (g := (mkF m 18 #[.val (.ref r0)] [(.ref w_STOPPING), (.ref r0)])) X20 hx rfl rfl rfl (pc0 := 18) (pc' := 25) (same := false) rfl (hb hby d2_18) rfl (decide_eq_false fun q => hc21 (Value.ref.inj q)) (by decide) (by decide) k) ?_
        refine own_go (A' := (T20.setTop (mkF m 26 #[.val (.ref r0)] [(.int (0 : Int32))]))) (fun t k => ?_) ?_
        · show Steps p.tables e below (T20.setTop (mkF m 25 #[.val (.ref r0)] [])) _
          refine XS.iconst X20.here hx rfl (hb hby d2_25) ?_
          exact k
        obtain ⟨fs, hr, hrun, hended, hW, hsame⟩ := X20.leave (v := some (.int (0 : Int32))) (fun h => by rw [Bd.returns] at h; cases h)
        refine ⟨_, _, ?_, hrun, hended, _, _, rfl, ?_, ⟨_, rfl⟩, hW, hsame.mono (by decide) (by decide)⟩
        · show Steps p.tables e below (T20.setTop (mkF m 26 #[.val (.ref r0)] [(.int (0 : Int32))])) _
          exact retN X20 hx (t := .boolean) Bd.returns (by simp) (hb hby d2_26) hr
        · show Q2 Z r0 w_STARTING w_STOPPED w_STARTED w_STOPPING w_ABANDONED w_UNKNOWN w_FAILED w_COMPLETED h0 n0 _ _ _
          exact ⟨(by rw [isRun, if_neg hc17, if_neg hc19, if_neg hc21]), N0, e20⟩
theorem d3_0 : decode method_3_code 0 = .ok (.iload_n 0, 1) := by decide +kernel
theorem d3_1 : decode method_3_code 1 = .ok (.ifCond .ne 5, 3) := by decide +kernel
theorem d3_4 : decode method_3_code 4 = .ok (.iconst 1, 1) := by decide +kernel
theorem d3_5 : decode method_3_code 5 = .ok (.ireturn, 1) := by decide +kernel
theorem d3_6 : decode method_3_code 6 = .ok (.iload_n 0, 1) := by decide +kernel
theorem d3_7 : decode method_3_code 7 = .ok (.iconst 1, 1) := by decide +kernel
theorem d3_8 : decode method_3_code 8 = .ok (.if_icmp .ne 5, 3) := by decide +kernel
theorem d3_11 : decode method_3_code 11 = .ok (.iconst 1, 1) := by decide +kernel
theorem d3_12 : decode method_3_code 12 = .ok (.ireturn, 1) := by decide +kernel
theorem d3_13 : decode method_3_code 13 = .ok (.iload_n 0, 1) := by decide +kernel
theorem d3_14 : decode method_3_code 14 = .ok (.iconst 2, 1) := by decide +kernel
theorem d3_15 : decode method_3_code 15 = .ok (.if_icmp .ne 5, 3) := by decide +kernel
theorem d3_18 : decode method_3_code 18 = .ok (.iconst 1, 1) := by decide +kernel
theorem d3_19 : decode method_3_code 19 = .ok (.ireturn, 1) := by decide +kernel
theorem d3_20 : decode method_3_code 20 = .ok (.iconst 0, 1) := by decide +kernel
theorem d3_21 : decode method_3_code 21 = .ok (.ireturn, 1) := by decide +kernel
theorem pn_3 : plainName "com/example/ajo/ajo/BatchStatusIsRunningPinLaw" = true := by first | (simp [plainName, overriddenIn]; done) | decide +kernel
theorem ef_3 (m : MethodId) (p0 : Int32) : entryFrame m #[(.int p0)] 1 = mkF m 0 #[.val (.int p0)] [] := by first | (simp [entryFrame, mkF, argsToLocals, Value.category]; done) | rfl
def Q3 (Z : State) (p0 : Int32)  (h0 : Heap) (n0 : Nat) (v : Option Value) (h : Heap) (L : List Loc) : Prop := v = some (.int (exRun p0)) ∧ Fr n0 L ∧ h = h0
set_option maxRecDepth 65536 in
set_option maxHeartbeats 40000000 in
theorem rm3 (l : Launch) (Z : State) (a0 : Array Value) (hw : ∀ d ∈ tables_1, d.before a0 Z = true) (ws : List Jvm.Cond) (p0 : Int32)  (h0 : Heap) (n0 : Nat) (Z0 : n0 ≤ h0.size)  :
    MetFree l (⟨"com/example/ajo/ajo/BatchStatusIsRunningPinLaw", "expectedRunning", "(I)Z"⟩ : MethodName) (head1 (Jvm.Cond.code (⟨"com/example/ajo/ajo/BatchStatusIsRunningPinLaw", "expectedRunning", "(I)Z"⟩ : MethodName) method_3_code 1 (some .boolean) :: ws) ({ frames := 0, cells := 0, slots := 0, locals := 0 } : Room)) (fun a U => a = #[(.int p0)] ∧ Z.Warmed39 U.vm ∧ U.heap = h0) (fun _ _ _ _ _ => True) (fun _ U o U' => ∃ v L, o = .returned v ∧ Q3 Z p0 h0 n0 v U'.heap L ∧ FrameEnd U o U' L ({ frames := 0, cells := 0, slots := 0, locals := 0 } : Room).cells ({ frames := 0, cells := 0, slots := 0, locals := 0 } : Room).slots) := by
  refine MetFree.of_bodySF (plainFor_of_name pn_3) hisR ?_
  intro p e s m args below meth c s₁ Bd hml0 hP hK
  obtain ⟨rfl, hZ, hh⟩ := hP
  have hx := Bd.exec
  have hby := Bd.bytes
  have hml : c.maxLocals = 1 := hml0
  have hown : s.vm.findClass "com/example/ajo/ajo/BatchStatusIsRunningPinLaw" = some m.cls := findClass_of_methodNamed Bd.named
  have hnm := (name_of_methodNamed Bd.named Bd.method).1
  have X0 : Stand p l e ({ frames := 0, cells := 0, slots := 0, locals := 0 } : Room) s m #[(.int p0)] below meth c s₁ [] 0 0 := Stand.of_body Bd
  have e0 : s₁.heap = h0 := by rw [← hh, Bd.state]; rfl
  have N0 := Fr.nil n0
  refine own_go (A' := (s₁.setTop (mkF m 0 #[.val (.int p0)] []))) (fun t k => castTop (ef_3 m p0) k) ?_
  refine own_go (A' := (s₁.setTop (mkF m 1 #[.val (.int p0)] [(.int p0)]))) (fun t k => ?_) ?_
  · show Steps p.tables e below (s₁.setTop (mkF m 0 #[.val (.int p0)] [])) _
    refine XS.iloadN X0.here hx rfl (hb hby d3_0) rfl ?_
    exact k
  by_cases hc22 : p0 = (0 : Int32)
  · -- hc22: yes
    refine own_go (A' := (s₁.setTop (mkF m 4 #[.val (.int p0)] []))) (fun t k => XS.ifNo X0.here hx rfl (hb hby d3_1) rfl ((if0 _ _).trans (teq hc22).2) k) ?_
    refine own_go (A' := (s₁.setTop (mkF m 5 #[.val (.int p0)] [(.int (1 : Int32))]))) (fun t k => ?_) ?_
    · show Steps p.tables e below (s₁.setTop (mkF m 4 #[.val (.int p0)] [])) _
      refine XS.iconst X0.here hx rfl (hb hby d3_4) ?_
      exact k
    obtain ⟨fs, hr, hrun, hended, hW, hsame⟩ := X0.leave (v := some (.int (1 : Int32))) (fun h => by rw [Bd.returns] at h; cases h)
    refine ⟨_, _, ?_, hrun, hended, _, _, rfl, ?_, ⟨_, rfl⟩, hW, hsame.mono (by decide) (by decide)⟩
    · show Steps p.tables e below (s₁.setTop (mkF m 5 #[.val (.int p0)] [(.int (1 : Int32))])) _
      exact retN X0 hx (t := .boolean) Bd.returns (by simp) (hb hby d3_5) hr
    · show Q3 Z p0 h0 n0 _ _ _
      exact ⟨(by rw [exRun, if_pos hc22]), N0, e0⟩
  · -- hc22: no
    refine own_go (A' := (s₁.setTop (mkF m 6 #[.val (.int p0)] []))) (fun t k => XS.ifYes X0.here hx rfl (pc0 := 1) (pc' := 6) rfl (hb hby d3_1) rfl ((if0 _ _).trans (feq hc22).2) (by decide) (by decide) k) ?_
    refine own_go (A' := (s₁.setTop (mkF m 8 #[.val (.int p0)] [(.int (1 : Int32)), (.int p0)]))) (fun t k => ?_) ?_
    · show Steps p.tables e below (s₁.setTop (mkF m 6 #[.val (.int p0)] [])) _
      refine XS.iloadN X0.here hx rfl (hb hby d3_6) rfl ?_
      show Steps p.tables e below (s₁.setTop (mkF m 7 #[.val (.int p0)] [(.int p0)])) _
      refine XS.iconst X0.here hx rfl (hb hby d3_7) ?_
      exact k
    by_cases hc23 : p0 = (1 : Int32)
    · -- hc23: yes
      refine own_go (A' := (s₁.setTop (mkF m 11 #[.val (.int p0)] []))) (fun t k => XS.icmpNo X0.here hx rfl (hb hby d3_8) rfl (teq hc23).2 k) ?_
      refine own_go (A' := (s₁.setTop (mkF m 12 #[.val (.int p0)] [(.int (1 : Int32))]))) (fun t k => ?_) ?_
      · show Steps p.tables e below (s₁.setTop (mkF m 11 #[.val (.int p0)] [])) _
        refine XS.iconst X0.here hx rfl (hb hby d3_11) ?_
        exact k
      obtain ⟨fs, hr, hrun, hended, hW, hsame⟩ := X0.leave (v := some (.int (1 : Int32))) (fun h => by rw [Bd.returns] at h; cases h)
      refine ⟨_, _, ?_, hrun, hended, _, _, rfl, ?_, ⟨_, rfl⟩, hW, hsame.mono (by decide) (by decide)⟩
      · show Steps p.tables e below (s₁.setTop (mkF m 12 #[.val (.int p0)] [(.int (1 : Int32))])) _
        exact retN X0 hx (t := .boolean) Bd.returns (by simp) (hb hby d3_12) hr
      · show Q3 Z p0 h0 n0 _ _ _
        exact ⟨(by rw [exRun, if_neg hc22, if_pos hc23]), N0, e0⟩
    · -- hc23: no
      refine own_go (A' := (s₁.setTop (mkF m 13 #[.val (.int p0)] []))) (fun t k => XS.icmpYes X0.here hx rfl (pc0 := 8) (pc' := 13) rfl (hb hby d3_8) rfl (feq hc23).2 (by decide) (by decide) k) ?_
      refine own_go (A' := (s₁.setTop (mkF m 15 #[.val (.int p0)] [(.int (2 : Int32)), (.int p0)]))) (fun t k => ?_) ?_
      · show Steps p.tables e below (s₁.setTop (mkF m 13 #[.val (.int p0)] [])) _
        refine XS.iloadN X0.here hx rfl (hb hby d3_13) rfl ?_
        show Steps p.tables e below (s₁.setTop (mkF m 14 #[.val (.int p0)] [(.int p0)])) _
        refine XS.iconst X0.here hx rfl (hb hby d3_14) ?_
        exact k
      by_cases hc24 : p0 = (2 : Int32)
      · -- hc24: yes
        refine own_go (A' := (s₁.setTop (mkF m 18 #[.val (.int p0)] []))) (fun t k => XS.icmpNo X0.here hx rfl (hb hby d3_15) rfl (teq hc24).2 k) ?_
        refine own_go (A' := (s₁.setTop (mkF m 19 #[.val (.int p0)] [(.int (1 : Int32))]))) (fun t k => ?_) ?_
        · show Steps p.tables e below (s₁.setTop (mkF m 18 #[.val (.int p0)] [])) _
          refine XS.iconst X0.here hx rfl (hb hby d3_18) ?_
          exact k
        obtain ⟨fs, hr, hrun, hended, hW, hsame⟩ := X0.leave (v := some (.int (1 : Int32))) (fun h => by rw [Bd.returns] at h; cases h)
        refine ⟨_, _, ?_, hrun, hended, _, _, rfl, ?_, ⟨_, rfl⟩, hW, hsame.mono (by decide) (by decide)⟩
        · show Steps p.tables e below (s₁.setTop (mkF m 19 #[.val (.int p0)] [(.int (1 : Int32))])) _
          exact retN X0 hx (t := .boolean) Bd.returns (by simp) (hb hby d3_19) hr
        · show Q3 Z p0 h0 n0 _ _ _
          exact ⟨(by rw [exRun, if_neg hc22, if_neg hc23, if_pos hc24]), N0, e0⟩
      · -- hc24: no
        refine own_go (A' := (s₁.setTop (mkF m 20 #[.val (.int p0)] []))) (fun t k => XS.icmpYes X0.here hx rfl (pc0 := 15) (pc' := 20) rfl (hb hby d3_15) rfl (feq hc24).2 (by decide) (by decide) k) ?_
        refine own_go (A' := (s₁.setTop (mkF m 21 #[.val (.int p0)] [(.int (0 : Int32))]))) (fun t k => ?_) ?_
        · show Steps p.tables e below (s₁.setTop (mkF m 20 #[.val (.int p0)] [])) _
          refine XS.iconst X0.here hx rfl (hb hby d3_20) ?_
          exact k
        obtain ⟨fs, hr, hrun, hended, hW, hsame⟩ := X0.leave (v := some (.int (0 : Int32))) (fun h => by rw [Bd.returns] at h; cases h)
        refine ⟨_, _, ?_, hrun, hended, _, _, rfl, ?_, ⟨_, rfl⟩, hW, hsame.mono (by decide) (by decide)⟩
        · show Steps p.tables e below (s₁.setTop (mkF m 21 #[.val (.int p0)] [(.int (0 : Int32))])) _
          exact retN X0 hx (t := .boolean) Bd.returns (by simp) (hb hby d3_21) hr
        · show Q3 Z p0 h0 n0 _ _ _
          exact ⟨(by rw [exRun, if_neg hc22, if_neg hc23, if_neg hc24]), N0, e0⟩
theorem pd_0 : parseMethodDescriptor "(I)Lcom/example/ajo/ajo/BatchStatus;" = some ⟨[.int], some (.object "com/example/ajo/ajo/BatchStatus")⟩ := by decide +kernel
theorem pd_1 : parseMethodDescriptor "()Z" = some ⟨[], some .boolean⟩ := by decide +kernel
theorem pd_2 : parseMethodDescriptor "(I)Z" = some ⟨[.int], some .boolean⟩ := by decide +kernel
theorem pn_0 : plainName "com/example/ajo/ajo/BatchStatusIsRunningPinLaw" = true := by first | (simp [plainName, overriddenIn]; done) | decide +kernel
theorem ef_0 (m : MethodId) (p0 : Int32) : entryFrame m #[(.int p0)] maxLocals = mkF m 0 #[.val (.int p0), .unset, .unset] [] := by first | (simp [entryFrame, mkF, argsToLocals, Value.category, maxLocals]; done) | rfl
def Q0 (Z : State) (p0 : Int32) (w_STARTING : Addr) (w_STOPPED : Addr) (w_STARTED : Addr) (w_STOPPING : Addr) (w_ABANDONED : Addr) (w_UNKNOWN : Addr) (w_FAILED : Addr) (w_COMPLETED : Addr) (h0 : Heap) (n0 : Nat) (v : Option Value) (h : Heap) (L : List Loc) : Prop := v = some (.int (1 : Int32)) ∧ Fr n0 L
set_option maxRecDepth 65536 in
set_option maxHeartbeats 40000000 in
theorem rm0 (l : Launch) (Z : State) (a0 : Array Value) (hw : ∀ d ∈ tables_1, d.before a0 Z = true) (ws : List Jvm.Cond) (p0 : Int32) (w_STARTING : Addr) (w_STOPPED : Addr) (w_STARTED : Addr) (w_STOPPING : Addr) (w_ABANDONED : Addr) (w_UNKNOWN : Addr) (w_FAILED : Addr) (w_COMPLETED : Addr) (h0 : Heap) (n0 : Nat) (Z0 : n0 ≤ h0.size) (S_STARTING : Sta Z h0 "com/example/ajo/ajo/BatchStatus" "STARTING" "Lcom/example/ajo/ajo/BatchStatus;" (.ref w_STARTING)) (S_STOPPED : Sta Z h0 "com/example/ajo/ajo/BatchStatus" "STOPPED" "Lcom/example/ajo/ajo/BatchStatus;" (.ref w_STOPPED)) (S_STARTED : Sta Z h0 "com/example/ajo/ajo/BatchStatus" "STARTED" "Lcom/example/ajo/ajo/BatchStatus;" (.ref w_STARTED)) (S_STOPPING : Sta Z h0 "com/example/ajo/ajo/BatchStatus" "STOPPING" "Lcom/example/ajo/ajo/BatchStatus;" (.ref w_STOPPING)) (S_ABANDONED : Sta Z h0 "com/example/ajo/ajo/BatchStatus" "ABANDONED" "Lcom/example/ajo/ajo/BatchStatus;" (.ref w_ABANDONED)) (S_UNKNOWN : Sta Z h0 "com/example/ajo/ajo/BatchStatus" "UNKNOWN" "Lcom/example/ajo/ajo/BatchStatus;" (.ref w_UNKNOWN)) (S_FAILED : Sta Z h0 "com/example/ajo/ajo/BatchStatus" "FAILED" "Lcom/example/ajo/ajo/BatchStatus;" (.ref w_FAILED)) (S_COMPLETED : Sta Z h0 "com/example/ajo/ajo/BatchStatus" "COMPLETED" "Lcom/example/ajo/ajo/BatchStatus;" (.ref w_COMPLETED)) (E_STARTING : Exa Z h0 w_STARTING "com/example/ajo/ajo/BatchStatus") (E_STOPPED : Exa Z h0 w_STOPPED "com/example/ajo/ajo/BatchStatus") (E_STARTED : Exa Z h0 w_STARTED "com/example/ajo/ajo/BatchStatus") (E_STOPPING : Exa Z h0 w_STOPPING "com/example/ajo/ajo/BatchStatus") (E_ABANDONED : Exa Z h0 w_ABANDONED "com/example/ajo/ajo/BatchStatus") (E_UNKNOWN : Exa Z h0 w_UNKNOWN "com/example/ajo/ajo/BatchStatus") (E_FAILED : Exa Z h0 w_FAILED "com/example/ajo/ajo/BatchStatus") (E_COMPLETED : Exa Z h0 w_COMPLETED "com/example/ajo/ajo/BatchStatus") (O_STARTING_ordinal : Fld Z h0 w_STARTING "java/lang/Enum" "ordinal" "I" (.int (0 : Int32))) (O_STOPPED_ordinal : Fld Z h0 w_STOPPED "java/lang/Enum" "ordinal" "I" (.int (3 : Int32))) (O_STARTED_ordinal : Fld Z h0 w_STARTED "java/lang/Enum" "ordinal" "I" (.int (1 : Int32))) (O_STOPPING_ordinal : Fld Z h0 w_STOPPING "java/lang/Enum" "ordinal" "I" (.int (2 : Int32))) (O_ABANDONED_ordinal : Fld Z h0 w_ABANDONED "java/lang/Enum" "ordinal" "I" (.int (6 : Int32))) (O_UNKNOWN_ordinal : Fld Z h0 w_UNKNOWN "java/lang/Enum" "ordinal" "I" (.int (7 : Int32))) (O_FAILED_ordinal : Fld Z h0 w_FAILED "java/lang/Enum" "ordinal" "I" (.int (4 : Int32))) (O_COMPLETED_ordinal : Fld Z h0 w_COMPLETED "java/lang/Enum" "ordinal" "I" (.int (5 : Int32))) :
    MetFree l x (head1 (Jvm.Cond.code x code maxLocals ret :: ws) room_1) (fun a U => a = #[(.int p0)] ∧ Z.Warmed39 U.vm ∧ U.heap = h0) (fun _ _ _ _ _ => True) (fun _ U o U' => ∃ v L, o = .returned v ∧ Q0 Z p0 w_STARTING w_STOPPED w_STARTED w_STOPPING w_ABANDONED w_UNKNOWN w_FAILED w_COMPLETED h0 n0 v U'.heap L ∧ FrameEnd U o U' L room_1.cells room_1.slots) := by
  refine MetFree.of_bodySF (plainFor_of_name pn_0) hisR ?_
  intro p e s m args below meth c s₁ Bd hml0 hP hK
  obtain ⟨rfl, hZ, hh⟩ := hP
  have hx := Bd.exec
  have hby := Bd.bytes
  have hml : c.maxLocals = 3 := hml0
  have hown : s.vm.findClass "com/example/ajo/ajo/BatchStatusIsRunningPinLaw" = some m.cls := findClass_of_methodNamed Bd.named
  have hnm := (name_of_methodNamed Bd.named Bd.method).1
  have X0 : Stand p l e room_1 s m #[(.int p0)] below meth c s₁ [] 0 0 := Stand.of_body Bd
  have e0 : s₁.heap = h0 := by rw [← hh, Bd.state]; rfl
  have N0 := Fr.nil n0
  refine own_go (A' := (s₁.setTop (mkF m 0 #[.val (.int p0), .unset, .unset] []))) (fun t k => castTop (ef_0 m p0) k) ?_
  obtain ⟨_, _, ⟨T25, L25, k25, n25⟩, -, X25, ⟨Lc25, hQ25, l25, y25, z25⟩, st25⟩ := Jvm.LawKit.callS X0 hx (y := (⟨"com/example/ajo/ajo/BatchStatusIsRunningPinLaw", "pick", "(I)Lcom/example/ajo/ajo/BatchStatus;"⟩ : MethodName)) hown (mvT hZ (hw _ (List.mem_of_getElem? (i := 0) rfl))) (mvT hZ (hw _ (List.mem_of_getElem? (i := 1) rfl))) (mvT hZ (hw _ (List.mem_of_getElem? (i := 2) rfl))) (mvT hZ (hw _ (List.mem_of_getElem? (i := 3) rfl))) (by decide) (backOf (W := 0) (rm1 l Z a0 hw [] (p0 &&& (7 : Int32)) w_STARTING w_STOPPED w_STARTED w_STOPPING w_ABANDONED w_UNKNOWN w_FAILED w_COMPLETED h0 n0 Z0 S_STARTING S_STOPPED S_STARTED S_STOPPING S_ABANDONED S_UNKNOWN S_FAILED S_COMPLETED E_STARTING E_STOPPED E_STARTED E_STOPPING E_ABANDONED E_UNKNOWN E_FAILED E_COMPLETED O_STARTING_ordinal O_STOPPED_ordinal O_STARTED_ordinal O_STOPPING_ordinal O_ABANDONED_ordinal O_UNKNOWN_ordinal O_FAILED_ordinal O_COMPLETED_ordinal) hZ (hw _ (List.mem_of_getElem? (i := 3) rfl)) (hw _ (List.mem_of_getElem? (i := 2) rfl)) (by decide) (by decide)) (g := (mkF m 6 #[.val (.int p0), .val (.int (p0 &&& (7 : Int32))), .unset] [(.int (p0 &&& (7 : Int32)))])) rfl (by rw [hml]; rfl) (argsL := [(.int (p0 &&& (7 : Int32)))]) (rest := []) (lenOf pd_0 rfl) rfl (by show 2 * 0 + _ ≤ _; exact Nat.le_of_eq rfl) (hb hby at_6) (fun _ _ => ⟨rfl, e0, (by decide : 0 + 0 ≤ _), (by decide : 0 + 0 ≤ _)⟩)
  dsimp only [Pt.U, Pt.locs, Pt.cells, Pt.slots] at X25 l25 y25 z25 st25 hQ25
  subst l25 y25 z25
  obtain ⟨rfl, N25q, e25⟩ := hQ25
  have N25 := Fr.app N0 N25q
  obtain ⟨cq26, kq26, q26a, q26b, q26c⟩ := isOf hZ e25 (pk_exa _ E_STARTING E_STARTED E_STOPPING E_STOPPED E_FAILED E_COMPLETED E_ABANDONED E_UNKNOWN)
  obtain ⟨_, _, ⟨T26, L26, k26, n26⟩, -, X26, ⟨Lc26, hQ26, l26, y26, z26⟩, st26⟩ := X25.virtualBack hx (y := (⟨"com/example/ajo/ajo/BatchStatus", "isRunning", "()Z"⟩ : MethodName)) (z := (⟨"com/example/ajo/ajo/BatchStatus", "isRunning", "()Z"⟩ : MethodName)) hown (mvT hZ (hw _ (List.mem_of_getElem? (i := 7) rfl))) (mvT hZ (hw _ (List.mem_of_getElem? (i := 8) rfl))) (notFace_of_selects (args := #[]) (mvT hZ (hw _ (List.mem_of_getElem? (i := 10) rfl)))) (mvT hZ (hw _ (List.mem_of_getElem? (i := 10) rfl))) (mvT hZ (hw _ (List.mem_of_getElem? (i := 9) rfl))) (by decide) (backOf (W := 0) (rm2 l Z a0 hw [] (pk w_STARTING w_STARTED w_STOPPING w_STOPPED w_FAILED w_COMPLETED w_ABANDONED w_UNKNOWN (p0 &&& (7 : Int32))) w_STARTING w_STOPPED w_STARTED w_STOPPING w_ABANDONED w_UNKNOWN w_FAILED w_COMPLETED h0 n0 Z0 S_STARTING S_STOPPED S_STARTED S_STOPPING S_ABANDONED S_UNKNOWN S_FAILED S_COMPLETED E_STARTING E_STOPPED E_STARTED E_STOPPING E_ABANDONED E_UNKNOWN E_FAILED E_COMPLETED O_STARTING_ordinal O_STOPPED_ordinal O_STARTED_ordinal O_STOPPING_ordinal O_ABANDONED_ordinal O_UNKNOWN_ordinal O_FAILED_ordinal O_COMPLETED_ordinal) hZ (hw _ (List.mem_of_getElem? (i := 11) rfl)) (hw _ (List.mem_of_getElem? (i := 5) rfl)) (by decide) (by decide)) q26a q26c (g := (mkF m 11 #[.val (.int p0), .val (.int (p0 &&& (7 : Int32))), .val (.ref (pk w_STARTING w_STARTED w_STOPPING w_STOPPED w_FAILED w_COMPLETED w_ABANDONED w_UNKNOWN (p0 &&& (7 : Int32))))] [(.ref (pk w_STARTING w_STARTED w_STOPPING w_STOPPED w_FAILED w_COMPLETED w_ABANDONED w_UNKNOWN (p0 &&& (7 : Int32))))])) rfl (by rw [hml]; rfl) (Steps.refl _) (argsL := []) (rest := []) (lenOf pd_1 rfl) rfl (by show 2 * 0 + _ ≤ _; exact Nat.le_of_eq rfl) (hb hby at_11) (fun _ _ => ⟨rfl, e25, (by decide : 0 + 0 ≤ _), (by decide : 0 + 0 ≤ _)⟩)
  dsimp only [Pt.U, Pt.locs, Pt.cells, Pt.slots] at X26 l26 y26 z26 st26 hQ26
  subst l26 y26 z26
  obtain ⟨rfl, N26q, e26⟩ := hQ26
  have N26 := Fr.app N25 N26q
  obtain ⟨_, _, ⟨T27, L27, k27, n27⟩, -, X27, ⟨Lc27, hQ27, l27, y27, z27⟩, st27⟩ := Jvm.LawKit.callS X26 hx (y := (⟨"com/example/ajo/ajo/BatchStatusIsRunningPinLaw", "expectedRunning", "(I)Z"⟩ : MethodName)) hown (mvT hZ (hw _ (List.mem_of_getElem? (i := 13) rfl))) (mvT hZ (hw _ (List.mem_of_getElem? (i := 14) rfl))) (mvT hZ (hw _ (List.mem_of_getElem? (i := 2) rfl))) (mvT hZ (hw _ (List.mem_of_getElem? (i := 15) rfl))) (by decide) (backOf (W := 1) (rm3 l Z a0 hw [] (p0 &&& (7 : Int32))  h0 n0 Z0 ) hZ (hw _ (List.mem_of_getElem? (i := 15) rfl)) (hw _ (List.mem_of_getElem? (i := 2) rfl)) (by decide) (by decide)) (g := (mkF m 15 #[.val (.int p0), .val (.int (p0 &&& (7 : Int32))), .val (.ref (pk w_STARTING w_STARTED w_STOPPING w_STOPPED w_FAILED w_COMPLETED w_ABANDONED w_UNKNOWN (p0 &&& (7 : Int32))))] [(.int (p0 &&& (7 : Int32))), (.int (isRun w_STARTING w_STARTED w_STOPPING (pk w_STARTING w_STARTED w_STOPPING w_STOPPED w_FAILED w_COMPLETED w_ABANDONED w_UNKNOWN (p0 &&& (7 : Int32)))))])) rfl (by rw [hml]; rfl) (argsL := [(.int (p0 &&& (7 : Int32)))]) (rest := [(.int (isRun w_STARTING w_STARTED w_STOPPING (pk w_STARTING w_STARTED w_STOPPING w_STOPPED w_FAILED w_COMPLETED w_ABANDONED w_UNKNOWN (p0 &&& (7 : Int32)))))]) (lenOf pd_2 rfl) rfl (by show 2 * 0 + _ ≤ _; exact Nat.le_of_eq rfl) (hb hby at_15) (fun _ _ => ⟨rfl, e26, (by decide : 0 + 0 ≤ _), (by decide : 0 + 0 ≤ _)⟩)
  dsimp only [Pt.U, Pt.locs, Pt.cells, Pt.slots] at X27 l27 y27 z27 st27 hQ27
  subst l27 y27 z27
  obtain ⟨rfl, N27q, e27⟩ := hQ27
  have N27 := Fr.app N26 N27q
  refine own_go (A' := (T27.setTop (mkF m 18 #[.val (.int p0), .val (.int (p0 &&& (7 : Int32))), .val (.ref (pk w_STARTING w_STARTED w_STOPPING w_STOPPED w_FAILED w_COMPLETED w_ABANDONED w_UNKNOWN (p0 &&& (7 : Int32))))] [(.int (exRun (p0 &&& (7 : Int32)))), (.int (isRun w_STARTING w_STARTED w_STOPPING (pk w_STARTING w_STARTED w_STOPPING w_STOPPED w_FAILED w_COMPLETED w_ABANDONED w_UNKNOWN (p0 &&& (7 : Int32)))))]))) (fun t k => ?_) ?_
  · show Steps p.tables e below (s₁.setTop (mkF m 0 #[.val (.int p0), .unset, .unset] [])) _
    refine XS.iloadN X0.here hx rfl (hb hby at_0) rfl ?_
    show Steps p.tables e below (s₁.setTop (mkF m 1 #[.val (.int p0), .unset, .unset] [(.int p0)])) _
    refine XS.bipush X0.here hx rfl (hb hby at_1) ?_
    show Steps p.tables e below (s₁.setTop (mkF m 3 #[.val (.int p0), .unset, .unset] [(.int (7 : Int32)), (.int p0)])) _
    refine XS.iand X0.here hx rfl (hb hby at_3) rfl ?_
    show Steps p.tables e below (s₁.setTop (mkF m 4 #[.val (.int p0), .unset, .unset] [(.int (p0 &&& (7 : Int32)))])) _
    refine XS.istoreN X0.here hx rfl (hb hby at_4) rfl (l' := #[.val (.int p0), .val (.int (p0 &&& (7 : Int32))), .unset]) rfl ?_
    show Steps p.tables e below (s₁.setTop (mkF m 5 #[.val (.int p0), .val (.int (p0 &&& (7 : Int32))), .unset] [])) _
    refine XS.iloadN X0.here hx rfl (hb hby at_5) rfl ?_
    show Steps p.tables e below (s₁.setTop (mkF m 6 #[.val (.int p0), .val (.int (p0 &&& (7 : Int32))), .unset] [(.int (p0 &&& (7 : Int32)))])) _
    refine st25 _ ?_
    show Steps p.tables e below (T25.setTop (mkF m 9 #[.val (.int p0), .val (.int (p0 &&& (7 : Int32))), .unset] [(.ref (pk w_STARTING w_STARTED w_STOPPING w_STOPPED w_FAILED w_COMPLETED w_ABANDONED w_UNKNOWN (p0 &&& (7 : Int32))))])) _
    refine XS.astoreN X25.here hx rfl (hb hby at_9) rfl rfl (l' := #[.val (.int p0), .val (.int (p0 &&& (7 : Int32))), .val (.ref (pk w_STARTING w_STARTED w_STOPPING w_STOPPED w_FAILED w_COMPLETED w_ABANDONED w_UNKNOWN (p0 &&& (7 : Int32))))]) rfl ?_
    show Steps p.tables e below (T25.setTop (mkF m 10 #[.val (.int p0), .val (.int (p0 &&& (7 : Int32))), .val (.ref (pk w_STARTING w_STARTED w_STOPPING w_STOPPED w_FAILED w_COMPLETED w_ABANDONED w_UNKNOWN (p0 &&& (7 : Int32))))] [])) _
    refine XS.aloadN X25.here hx rfl (hb hby at_10) rfl rfl ?_
    show Steps p.tables e below (T25.setTop (mkF m 11 #[.val (.int p0), .val (.int (p0 &&& (7 : Int32))), .val (.ref (pk w_STARTING w_STARTED w_STOPPING w_STOPPED w_FAILED w_COMPLETED w_ABANDONED w_UNKNOWN (p0 &&& (7 : Int32))))] [(.ref (pk w_STARTING w_STARTED w_STOPPING w_STOPPED w_FAILED w_COMPLETED w_ABANDONED w_UNKNOWN (p0 &&& (7 : Int32))))])) _
    refine st26.trans ?_
    show Steps p.tables e below (T26.setTop (mkF m 14 #[.val (.int p0), .val (.int (p0 &&& (7 : Int32))), .val (.ref (pk w_STARTING w_STARTED w_STOPPING w_STOPPED w_FAILED w_COMPLETED w_ABANDONED w_UNKNOWN (p0 &&& (7 : Int32))))] [(.int (isRun w_STARTING w_STARTED w_STOPPING (pk w_STARTING w_STARTED w_STOPPING w_STOPPED w_FAILED w_COMPLETED w_ABANDONED w_UNKNOWN (p0 &&& (7 : Int32)))))])) _
    refine XS.iloadN X26.here hx rfl (hb hby at_14) rfl ?_
    show Steps p.tables e below (T26.setTop (mkF m 15 #[.val (.int p0), .val (.int (p0 &&& (7 : Int32))), .val (.ref (pk w_STARTING w_STARTED w_STOPPING w_STOPPED w_FAILED w_COMPLETED w_ABANDONED w_UNKNOWN (p0 &&& (7 : Int32))))] [(.int (p0 &&& (7 : Int32))), (.int (isRun w_STARTING w_STARTED w_STOPPING (pk w_STARTING w_STARTED w_STOPPING w_STOPPED w_FAILED w_COMPLETED w_ABANDONED w_UNKNOWN (p0 &&& (7 : Int32)))))])) _
    refine st27 _ ?_
    exact k
  refine own_go (A' := (T27.setTop (mkF m 21 #[.val (.int p0), .val (.int (p0 &&& (7 : Int32))), .val (.ref (pk w_STARTING w_STARTED w_STOPPING w_STOPPED w_FAILED w_COMPLETED w_ABANDONED w_UNKNOWN (p0 &&& (7 : Int32))))] []))) (fun t k => XS.icmpNo X27.here hx rfl (hb hby at_18) rfl (teq (own_key (own_fld_ne O_STARTED_ordinal O_STARTING_ordinal (by decide)) (own_fld_ne O_STOPPING_ordinal O_STARTING_ordinal (by decide)) (own_fld_ne O_STOPPING_ordinal O_STARTED_ordinal (by decide)) (own_fld_ne O_STOPPED_ordinal O_STARTING_ordinal (by decide)) (own_fld_ne O_STOPPED_ordinal O_STARTED_ordinal (by decide)) (own_fld_ne O_STOPPED_ordinal O_STOPPING_ordinal (by decide)) (own_fld_ne O_FAILED_ordinal O_STARTING_ordinal (by decide)) (own_fld_ne O_FAILED_ordinal O_STARTED_ordinal (by decide)) (own_fld_ne O_FAILED_ordinal O_STOPPING_ordinal (by decide)) (own_fld_ne O_COMPLETED_ordinal O_STARTING_ordinal (by decide)) (own_fld_ne O_COMPLETED_ordinal O_STARTED_ordinal (by decide)) (own_fld_ne O_COMPLETED_ordinal O_STOPPING_ordinal (by decide)) (own_fld_ne O_ABANDONED_ordinal O_STARTING_ordinal (by decide)) (own_fld_ne O_ABANDONED_ordinal O_STARTED_ordinal (by decide)) (own_fld_ne O_ABANDONED_ordinal O_STOPPING_ordinal (by decide)) (own_fld_ne O_UNKNOWN_ordinal O_STARTING_ordinal (by decide)) (own_fld_ne O_UNKNOWN_ordinal O_STARTED_ordinal (by decide)) (own_fld_ne O_UNKNOWN_ordinal O_STOPPING_ordinal (by decide)) _)).2 k) ?_
  refine own_go (A' := (T27.setTop (mkF m 26 #[.val (.int p0), .val (.int (p0 &&& (7 : Int32))), .val (.ref (pk w_STARTING w_STARTED w_STOPPING w_STOPPED w_FAILED w_COMPLETED w_ABANDONED w_UNKNOWN (p0 &&& (7 : Int32))))] [(.int (1 : Int32))]))) (fun t k => ?_) ?_
  · show Steps p.tables e below (T27.setTop (mkF m 21 #[.val (.int p0), .val (.int (p0 &&& (7 : Int32))), .val (.ref (pk w_STARTING w_STARTED w_STOPPING w_STOPPED w_FAILED w_COMPLETED w_ABANDONED w_UNKNOWN (p0 &&& (7 : Int32))))] [])) _
    refine XS.iconst X27.here hx rfl (hb hby at_21) ?_
    show Steps p.tables e below (T27.setTop (mkF m 22 #[.val (.int p0), .val (.int (p0 &&& (7 : Int32))), .val (.ref (pk w_STARTING w_STARTED w_STOPPING w_STOPPED w_FAILED w_COMPLETED w_ABANDONED w_UNKNOWN (p0 &&& (7 : Int32))))] [(.int (1 : Int32))])) _
    refine XS.goto X27.here hx rfl (pc0 := 22) (pc' := 26) rfl (hb hby at_22) (by decide) (by decide) ?_
    exact k
  obtain ⟨fs, hr, hrun, hended, hW, hsame⟩ := X27.leave (v := some (.int (1 : Int32))) (fun h => by rw [Bd.returns] at h; cases h)
  refine ⟨_, _, ?_, hrun, hended, _, _, rfl, ?_, ⟨_, rfl⟩, hW, hsame.mono (by decide) (by decide)⟩
  · show Steps p.tables e below (T27.setTop (mkF m 26 #[.val (.int p0), .val (.int (p0 &&& (7 : Int32))), .val (.ref (pk w_STARTING w_STARTED w_STOPPING w_STOPPED w_FAILED w_COMPLETED w_ABANDONED w_UNKNOWN (p0 &&& (7 : Int32))))] [(.int (1 : Int32))])) _
    exact retN X27 hx (t := .boolean) Bd.returns (by simp) (hb hby at_26) hr
  · show Q0 Z p0 w_STARTING w_STOPPED w_STARTED w_STOPPING w_ABANDONED w_UNKNOWN w_FAILED w_COMPLETED h0 n0 _ _ _
    exact ⟨rfl, N27⟩
theorem own_eqint {t : Term} {k : Int32} {args : Array Value} {first s : State} {o : Option Outcome} {idx : List Nat} (h : (Jvm.Cond.eq t (.int k)).value args first o s idx = some true) : t.eval args first o idx s = some (.int k) := by
  cases ht : t.eval args first o idx s with
  | none => simp [Cond.value, Term.eval, ht] at h
  | some x => cases x <;> simp [Cond.value, Term.eval, ht] at h; subst h; rfl
set_option maxRecDepth 65536 in
set_option maxHeartbeats 40000000 in
theorem comes_1 {Post : Tables → Env → Array Value → State → Outcome → State → Prop} (hpost : ∀ tb e args s v u, (limb_1_1.after args s (.returned v) u = true ∧ limb_1_2.after args s (.returned v) u = true ∧ True) → FrameEnd s (.returned v) u (Jvm.fieldLocs frame_1_writes args s ++ Jvm.arrayLocs frame_1_arrays args s ++ Jvm.staticLocs frame_1_statics s) 0 0 → Post tb e args s (.returned v) u) :
    ArmFor flags0 classFile x code maxLocals ret World_1 tables_1 room_1 Calls_1 rest_1 Pre_1 Post := by
  intro l hfl _ _ p e ha hc hk s m args below hf hA hF happ hP
  obtain ⟨hcalls, hrest, hpre⟩ := hP
  obtain ⟨-, -, -, hnamed, -, -, -, hat⟩ := (Spec.applies_iff hf).mp happ
  obtain ⟨hg, hn⟩ := and_e (Cond.before_iff.mp (show (Jvm.Cond.and given_1 narrow_1).before args s = true from hpre))
  have hv0 := (and_e hg).2
  obtain ⟨w0, rfl⟩ : ∃ w0 : Value, args = #[w0] := by
    have hs : args.size = 1 := by simpa [Cond.value, given_1] using (and_e hg).1
    obtain ⟨L⟩ := args
    match L, hs with
    | [w0], _ => exact ⟨w0, rfl⟩
  have hw := fun d (hd : d ∈ tables_1) => atoms_spec (ws := Jvm.Cond.code x code maxLocals ret :: tables_1) hat d (List.mem_cons_of_mem _ hd)
  have hfit : Fit s := fun {y c} hc i hi => by
    obtain ⟨ha, rfl⟩ := Array.getElem?_eq_some_iff.mp hc
    have q := List.all_eq_true.mp ((Array.all_eq_true_iff_forall_mem.mp hF) _ (Array.getElem_mem ha)) i (List.mem_range.mpr hi)
    simpa [Array.getElem?_eq_getElem hi] using q
  obtain ⟨i0, ei0⟩ := is_v hv0
  obtain rfl : w0 = (.int i0) := Option.some.inj ei0
  have hx_STARTING := (and_e hn).1
  obtain ⟨w_STARTING, ev_STARTING⟩ := exa_v hx_STARTING
  have S_STARTING : Sta s s.heap "com/example/ajo/ajo/BatchStatus" "STARTING" "Lcom/example/ajo/ajo/BatchStatus;" (.ref w_STARTING) := Sta.start ev_STARTING (Or.inr ⟨(hw _ (List.mem_of_getElem? (i := 5) rfl)), (hw _ (List.mem_of_getElem? (i := 6) rfl))⟩)
  have E_STARTING : Exa s s.heap w_STARTING "com/example/ajo/ajo/BatchStatus" := Exa.start ev_STARTING hx_STARTING
  have O_STARTING_ordinal : Fld s s.heap w_STARTING "java/lang/Enum" "ordinal" "I" (.int (0 : Int32)) := Fld.start ((fld_at ev_STARTING).symm.trans (own_eqint (and_e (and_e (and_e (and_e hn).2).2).2).1))
  have hx_STOPPED := (and_e (and_e hn).2).1
  obtain ⟨w_STOPPED, ev_STOPPED⟩ := exa_v hx_STOPPED
  have S_STOPPED : Sta s s.heap "com/example/ajo/ajo/BatchStatus" "STOPPED" "Lcom/example/ajo/ajo/BatchStatus;" (.ref w_STOPPED) := Sta.start ev_STOPPED (Or.inr ⟨(hw _ (List.mem_of_getElem? (i := 5) rfl)), (hw _ (List.mem_of_getElem? (i := 17) rfl))⟩)
  have E_STOPPED : Exa s s.heap w_STOPPED "com/example/ajo/ajo/BatchStatus" := Exa.start ev_STOPPED hx_STOPPED
  have O_STOPPED_ordinal : Fld s s.heap w_STOPPED "java/lang/Enum" "ordinal" "I" (.int (3 : Int32)) := Fld.start ((fld_at ev_STOPPED).symm.trans (own_eqint (and_e (and_e (and_e hn).2).2).1))
  have hx_STARTED := (and_e (and_e (and_e (and_e (and_e hn).2).2).2).2).1
  obtain ⟨w_STARTED, ev_STARTED⟩ := exa_v hx_STARTED
  have S_STARTED : Sta s s.heap "com/example/ajo/ajo/BatchStatus" "STARTED" "Lcom/example/ajo/ajo/BatchStatus;" (.ref w_STARTED) := Sta.start ev_STARTED (Or.inr ⟨(hw _ (List.mem_of_getElem? (i := 5) rfl)), (hw _ (List.mem_of_getElem? (i := 19) rfl))⟩)
  have E_STARTED : Exa s s.heap w_STARTED "com/example/ajo/ajo/BatchStatus" := Exa.start ev_STARTED hx_STARTED
  have O_STARTED_ordinal : Fld s s.heap w_STARTED "java/lang/Enum" "ordinal" "I" (.int (1 : Int32)) := Fld.start ((fld_at ev_STARTED).symm.trans (own_eqint (and_e (and_e (and_e (and_e (and_e (and_e hn).2).2).2).2).2).1))
  have hx_STOPPING := (and_e (and_e (and_e (and_e (and_e (and_e (and_e hn).2).2).2).2).2).2).1
  obtain ⟨w_STOPPING, ev_STOPPING⟩ := exa_v hx_STOPPING
  have S_STOPPING : Sta s s.heap "com/example/ajo/ajo/BatchStatus" "STOPPING" "Lcom/example/ajo/ajo/BatchStatus;" (.ref w_STOPPING) := Sta.start ev_STOPPING (Or.inr ⟨(hw _ (List.mem_of_getElem? (i := 5) rfl)), (hw _ (List.mem_of_getElem? (i := 21) rfl))⟩)
  have E_STOPPING : Exa s s.heap w_STOPPING "com/example/ajo/ajo/BatchStatus" := Exa.start ev_STOPPING hx_STOPPING
  have O_STOPPING_ordinal : Fld s s.heap w_STOPPING "java/lang/Enum" "ordinal" "I" (.int (2 : Int32)) := Fld.start ((fld_at ev_STOPPING).symm.trans (own_eqint (and_e (and_e (and_e (and_e (and_e (and_e (and_e (and_e hn).2).2).2).2).2).2).2).1))
  have hx_ABANDONED := (and_e (and_e (and_e (and_e (and_e (and_e (and_e (and_e (and_e hn).2).2).2).2).2).2).2).2).1
  obtain ⟨w_ABANDONED, ev_ABANDONED⟩ := exa_v hx_ABANDONED
  have S_ABANDONED : Sta s s.heap "com/example/ajo/ajo/BatchStatus" "ABANDONED" "Lcom/example/ajo/ajo/BatchStatus;" (.ref w_ABANDONED) := Sta.start ev_ABANDONED (Or.inr ⟨(hw _ (List.mem_of_getElem? (i := 5) rfl)), (hw _ (List.mem_of_getElem? (i := 23) rfl))⟩)
  have E_ABANDONED : Exa s s.heap w_ABANDONED "com/example/ajo/ajo/BatchStatus" := Exa.start ev_ABANDONED hx_ABANDONED
  have O_ABANDONED_ordinal : Fld s s.heap w_ABANDONED "java/lang/Enum" "ordinal" "I" (.int (6 : Int32)) := Fld.start ((fld_at ev_ABANDONED).symm.trans (own_eqint (and_e (and_e (and_e (and_e (and_e (and_e (and_e (and_e (and_e (and_e hn).2).2).2).2).2).2).2).2).2).1))
  have hx_UNKNOWN := (and_e (and_e (and_e (and_e (and_e (and_e (and_e (and_e (and_e (and_e (and_e hn).2).2).2).2).2).2).2).2).2).2).1
  obtain ⟨w_UNKNOWN, ev_UNKNOWN⟩ := exa_v hx_UNKNOWN
  have S_UNKNOWN : Sta s s.heap "com/example/ajo/ajo/BatchStatus" "UNKNOWN" "Lcom/example/ajo/ajo/BatchStatus;" (.ref w_UNKNOWN) := Sta.start ev_UNKNOWN (Or.inr ⟨(hw _ (List.mem_of_getElem? (i := 5) rfl)), (hw _ (List.mem_of_getElem? (i := 25) rfl))⟩)
  have E_UNKNOWN : Exa s s.heap w_UNKNOWN "com/example/ajo/ajo/BatchStatus" := Exa.start ev_UNKNOWN hx_UNKNOWN
  have O_UNKNOWN_ordinal : Fld s s.heap w_UNKNOWN "java/lang/Enum" "ordinal" "I" (.int (7 : Int32)) := Fld.start ((fld_at ev_UNKNOWN).symm.trans (own_eqint (and_e (and_e (and_e (and_e (and_e (and_e (and_e (and_e (and_e (and_e (and_e (and_e hn).2).2).2).2).2).2).2).2).2).2).2).1))
  have hx_FAILED := (and_e (and_e (and_e (and_e (and_e (and_e (and_e (and_e (and_e (and_e (and_e (and_e (and_e hn).2).2).2).2).2).2).2).2).2).2).2).2).1
  obtain ⟨w_FAILED, ev_FAILED⟩ := exa_v hx_FAILED
  have S_FAILED : Sta s s.heap "com/example/ajo/ajo/BatchStatus" "FAILED" "Lcom/example/ajo/ajo/BatchStatus;" (.ref w_FAILED) := Sta.start ev_FAILED (Or.inr ⟨(hw _ (List.mem_of_getElem? (i := 5) rfl)), (hw _ (List.mem_of_getElem? (i := 29) rfl))⟩)
  have E_FAILED : Exa s s.heap w_FAILED "com/example/ajo/ajo/BatchStatus" := Exa.start ev_FAILED hx_FAILED
  have O_FAILED_ordinal : Fld s s.heap w_FAILED "java/lang/Enum" "ordinal" "I" (.int (4 : Int32)) := Fld.start ((fld_at ev_FAILED).symm.trans (own_eqint (and_e (and_e (and_e (and_e (and_e (and_e (and_e (and_e (and_e (and_e (and_e (and_e (and_e (and_e hn).2).2).2).2).2).2).2).2).2).2).2).2).2).1))
  have hx_COMPLETED := (and_e (and_e (and_e (and_e (and_e (and_e (and_e (and_e (and_e (and_e (and_e (and_e (and_e (and_e (and_e hn).2).2).2).2).2).2).2).2).2).2).2).2).2).2).1
  obtain ⟨w_COMPLETED, ev_COMPLETED⟩ := exa_v hx_COMPLETED
  have S_COMPLETED : Sta s s.heap "com/example/ajo/ajo/BatchStatus" "COMPLETED" "Lcom/example/ajo/ajo/BatchStatus;" (.ref w_COMPLETED) := Sta.start ev_COMPLETED (Or.inr ⟨(hw _ (List.mem_of_getElem? (i := 5) rfl)), (hw _ (List.mem_of_getElem? (i := 31) rfl))⟩)
  have E_COMPLETED : Exa s s.heap w_COMPLETED "com/example/ajo/ajo/BatchStatus" := Exa.start ev_COMPLETED hx_COMPLETED
  have O_COMPLETED_ordinal : Fld s s.heap w_COMPLETED "java/lang/Enum" "ordinal" "I" (.int (5 : Int32)) := Fld.start ((fld_at ev_COMPLETED).symm.trans (own_eqint (and_e (and_e (and_e (and_e (and_e (and_e (and_e (and_e (and_e (and_e (and_e (and_e (and_e (and_e (and_e hn).2).2).2).2).2).2).2).2).2).2).2).2).2).2).2))
  obtain ⟨n, o, h1, h2, h3, _, L, rfl, ⟨rfl, N⟩, hq⟩ := rm0 l s _ hw tables_1 i0 w_STARTING w_STOPPED w_STARTED w_STOPPING w_ABANDONED w_UNKNOWN w_FAILED w_COMPLETED s.heap s.heap.size (Nat.le_refl _) S_STARTING S_STOPPED S_STARTED S_STOPPING S_ABANDONED S_UNKNOWN S_FAILED S_COMPLETED E_STARTING E_STOPPED E_STARTED E_STOPPING E_ABANDONED E_UNKNOWN E_FAILED E_COMPLETED O_STARTING_ordinal O_STOPPED_ordinal O_STARTED_ordinal O_STOPPING_ordinal O_ABANDONED_ordinal O_UNKNOWN_ordinal O_FAILED_ordinal O_COMPLETED_ordinal p e ha hc hk s m _ below hf ((Spec.applies_iff_loose hf).mp happ).1 ⟨rfl, State.Warmed39.refl s, rfl⟩ trivial
  refine ⟨n, _, h1, h2, h3, hpost _ _ _ _ _ _ ⟨Cond.after_iff.mpr rfl, Cond.after_iff.mpr (eq_i res_at (Term.int_eval (1)) rfl), trivial⟩ ⟨hq.1, hq.2.1, (hq.2.2.sift fun y hy => Or.inr (N y hy)).mono (by decide) (by decide)⟩⟩
theorem main_1_1 : Claimed_1_1 := comes_1 fun _ _ _ _ _ _ h hF => ⟨h.1, hF⟩
theorem main_1_2 : Claimed_1_2 := comes_1 fun _ _ _ _ _ _ h hF => ⟨h.2.1, hF⟩
end Jvm.Pilot.@@N@@
namespace Jvm.Pilot.@@N@@
open Jvm Jvm.ClassFile Sem Op Lib Jvm.Free Jvm.Stand Jvm.Pilot.@@N@@.Jvm.D
/-! MADE BY PROGRAM (witnessworld.py) out of the Statement's table words and the real class files: 12 classes; the members and pool entries that the words name. The judged class is class 1, her method 3. -/
namespace start1
open Jvm.ClassFile
def u (s : String) : CpInfo := .utf8 (stringToUtf16 s)
/-- a pool by its gaps: so many unusable entries, then the entry; so many at the end -/
def gap : Nat → List CpInfo → List CpInfo
  | 0, r => r
  | n + 1, r => .unusable :: gap n r
def poolList (es : List (Nat × CpInfo)) (last : Nat) : List CpInfo := es.foldr (fun e r => gap e.1 (e.2 :: r)) (gap last [])
def pool (es : List (Nat × CpInfo)) (last : Nat) : Array CpInfo := ⟨poolList es last⟩
def fileOf (pool : Array CpInfo) (this : Nat) (attrs : Array Attribute := #[]) (ms : Array MethodInfo := #[]) (fl : Nat := 33) (sup : Nat := 0) (ifs : Array Nat := #[]) (fds : Array FieldInfo := #[]) : ClassFile where
  minorVersion := 0
  majorVersion := 65
  constantPool := pool
  accessFlags := fl
  thisClass := this
  superClass := sup
  interfaces := ifs
  fields := fds
  methods := ms
  attributes := attrs
def plain (name : String) (sup : Option ClassId) : Class where
  name := name
  kind := .ordinary
  loader := none
  accessFlags := 33
  super := sup
  interfaces := #[]
  cf := none
  fields := #[]
  methods := #[]
  instanceTypes := #[]
  staticTypes := #[]
  resolved := #[]
  callSites := []
  init := .initialized
  statics := none
  mirror := none

def pool0 : Array CpInfo := pool [(5, u "<init>"), (0, u "()V"), (1, .class_ 10), (1, u "java/lang/Object")] 113

def k0m0 : Method := { name := "<init>", desc := "()V", sig := { parameters := [], returnType := none }, accessFlags := 1, code := none }
/-- java/lang/Object -/
def k0 : Class := { plain "java/lang/Object" none with
  accessFlags := 33
  interfaces := #[]
  cf := some (fileOf pool0 8 #[] #[{ accessFlags := 1, nameIndex := 5, descriptorIndex := 6, attributes := #[] }] 33 0 #[] #[])
  fields := #[]
  methods := #[k0m0]
  instanceTypes := #[]
  staticTypes := #[]
  resolved := Array.replicate 124 none
  statics := none }

def pool1 : Array CpInfo := pool [(2, .class_ 4), (1, u "java/lang/Object"), (0, u "<init>"), (0, u "()V"), (0, .fieldref 8 9), (0, .class_ 10), (0, .nameAndType 11 12), (0, u "com/example/ajo/ajo/BatchStatus"), (0, u "STARTING"), (0, u "Lcom/example/ajo/ajo/BatchStatus;"), (0, .fieldref 8 14), (0, .nameAndType 15 12), (0, u "STARTED"), (0, .fieldref 8 17), (0, .nameAndType 18 12), (0, u "STOPPING"), (0, .fieldref 8 20), (0, .nameAndType 21 12), (0, u "STOPPED"), (0, .fieldref 8 23), (0, .nameAndType 24 12), (0, u "FAILED"), (0, .fieldref 8 26), (0, .nameAndType 27 12), (0, u "COMPLETED"), (0, .fieldref 8 29), (0, .nameAndType 30 12), (0, u "ABANDONED"), (0, .fieldref 8 32), (0, .nameAndType 33 12), (0, u "UNKNOWN"), (0, .methodref 35 36), (0, .class_ 37), (0, .nameAndType 38 39), (0, u "com/example/ajo/ajo/BatchStatusIsRunningPinLaw"), (0, u "pick"), (0, u "(I)Lcom/example/ajo/ajo/BatchStatus;"), (0, .methodref 8 41), (0, .nameAndType 42 43), (0, u "isRunning"), (0, u "()Z"), (0, .methodref 35 45), (0, .nameAndType 46 47), (0, u "expectedRunning"), (0, u "(I)Z"), (3, u "law")] 2

def k1m0 : Method := { name := "<init>", desc := "()V", sig := { parameters := [], returnType := none }, accessFlags := 2, code := none }
def k1c1 : Code := { maxStack := 2, maxLocals := 1, code := method_2_code, exceptionTable := #[], attributes := #[] }
def k1m1 : Method := { name := "pick", desc := "(I)Lcom/example/ajo/ajo/BatchStatus;", sig := { parameters := [.int], returnType := some (.object "com/example/ajo/ajo/BatchStatus") }, accessFlags := 10, code := some k1c1 }
def k1c2 : Code := { maxStack := 2, maxLocals := 1, code := method_3_code, exceptionTable := #[], attributes := #[] }
def k1m2 : Method := { name := "expectedRunning", desc := "(I)Z", sig := { parameters := [.int], returnType := some .boolean }, accessFlags := 10, code := some k1c2 }
def k1c3 : Code := { maxStack := 2, maxLocals := 3, code := code, exceptionTable := #[], attributes := #[] }
def k1m3 : Method := { name := "law", desc := "(I)Z", sig := { parameters := [.int], returnType := some .boolean }, accessFlags := 9, code := some k1c3 }
/-- com/example/ajo/ajo/BatchStatusIsRunningPinLaw -/
def k1 : Class := { plain "com/example/ajo/ajo/BatchStatusIsRunningPinLaw" (some 0) with
  accessFlags := 49
  interfaces := #[]
  cf := some (fileOf pool1 35 #[] #[{ accessFlags := 2, nameIndex := 5, descriptorIndex := 6, attributes := #[] }, { accessFlags := 10, nameIndex := 38, descriptorIndex := 39, attributes := #[] }, { accessFlags := 10, nameIndex := 46, descriptorIndex := 47, attributes := #[] }, { accessFlags := 9, nameIndex := 51, descriptorIndex := 47, attributes := #[] }] 49 2 #[] #[])
  fields := #[]
  methods := #[k1m0, k1m1, k1m2, k1m3]
  instanceTypes := #[]
  staticTypes := #[]
  resolved := Array.replicate 54 none
  statics := none }

def pool2 : Array CpInfo := pool [(1, .class_ 2), (0, u "java/lang/constant/Constable"), (0, .class_ 4), (0, u "java/lang/Object")] 6

/-- java/lang/constant/Constable -/
def k2 : Class := { plain "java/lang/constant/Constable" (some 0) with
  accessFlags := 1537
  interfaces := #[]
  cf := some (fileOf pool2 1 #[] #[] 1537 3 #[] #[])
  fields := #[]
  methods := #[]
  instanceTypes := #[]
  staticTypes := #[]
  resolved := Array.replicate 11 none
  statics := none }

def pool3 : Array CpInfo := pool [(1, .class_ 2), (0, u "java/lang/Comparable"), (0, .class_ 4), (0, u "java/lang/Object")] 7

/-- java/lang/Comparable -/
def k3 : Class := { plain "java/lang/Comparable" (some 0) with
  accessFlags := 1537
  interfaces := #[]
  cf := some (fileOf pool3 1 #[] #[] 1537 3 #[] #[])
  fields := #[]
  methods := #[]
  instanceTypes := #[]
  staticTypes := #[]
  resolved := Array.replicate 12 none
  statics := none }

def pool4 : Array CpInfo := pool [(1, .class_ 2), (0, u "java/io/Serializable"), (0, .class_ 4), (0, u "java/lang/Object")] 2

/-- java/io/Serializable -/
def k4 : Class := { plain "java/io/Serializable" (some 0) with
  accessFlags := 1537
  interfaces := #[]
  cf := some (fileOf pool4 1 #[] #[] 1537 3 #[] #[])
  fields := #[]
  methods := #[]
  instanceTypes := #[]
  staticTypes := #[]
  resolved := Array.replicate 7 none
  statics := none }

def pool5 : Array CpInfo := pool [(2, .class_ 4), (1, u "java/lang/Enum"), (0, u "name"), (0, u "Ljava/lang/String;"), (2, u "ordinal"), (0, u "I"), (1, .class_ 14), (1, u "java/lang/Object"), (4, u "hash"), (86, .class_ 108), (1, u "java/lang/Enum$EnumDesc"), (2, .class_ 112), (0, u "java/lang/constant/Constable"), (0, .class_ 114), (0, u "java/lang/Comparable"), (0, .class_ 116), (0, u "java/io/Serializable")] 87

/-- java/lang/Enum -/
def k5 : Class := { plain "java/lang/Enum" (some 0) with
  accessFlags := 1057
  interfaces := #[2, 3, 4]
  cf := some (fileOf pool5 2 #[.nestMembers #[106]] #[] 1057 12 #[111, 113, 115] #[{ accessFlags := 18, nameIndex := 5, descriptorIndex := 6, attributes := #[] }, { accessFlags := 18, nameIndex := 9, descriptorIndex := 10, attributes := #[] }, { accessFlags := 2, nameIndex := 19, descriptorIndex := 10, attributes := #[] }])
  fields := #[{ name := "name", type := (.object "java/lang/String"), accessFlags := 18, slot := 0, constantValue := 0 }, { name := "ordinal", type := .int, accessFlags := 18, slot := 1, constantValue := 0 }, { name := "hash", type := .int, accessFlags := 2, slot := 2, constantValue := 0 }]
  methods := #[]
  instanceTypes := #[(.object "java/lang/String"), .int, .int]
  staticTypes := #[]
  resolved := Array.replicate 204 none
  statics := none }

def pool6 : Array CpInfo := pool [(1, .class_ 2), (0, u "com/example/ajo/ajo/BatchStatus"), (0, .fieldref 1 4), (0, .nameAndType 5 6), (0, u "STARTING"), (0, u "Lcom/example/ajo/ajo/BatchStatus;"), (0, .fieldref 1 8), (0, .nameAndType 9 6), (0, u "STARTED"), (0, .fieldref 1 11), (0, .nameAndType 12 6), (0, u "STOPPING"), (2, u "STOPPED"), (2, u "FAILED"), (2, u "COMPLETED"), (2, u "ABANDONED"), (2, u "UNKNOWN"), (2, u "$VALUES"), (0, u "[Lcom/example/ajo/ajo/BatchStatus;"), (6, .class_ 40), (1, u "java/lang/Enum"), (26, u "isRunning"), (0, u "()Z")] 6

def k6c0 : Code := { maxStack := 2, maxLocals := 1, code := prog_1_method_4_code, exceptionTable := #[], attributes := #[] }
def k6m0 : Method := { name := "isRunning", desc := "()Z", sig := { parameters := [], returnType := some .boolean }, accessFlags := 1, code := some k6c0 }
/-- com/example/ajo/ajo/BatchStatus -/
def k6 : Class := { plain "com/example/ajo/ajo/BatchStatus" (some 5) with
  accessFlags := 16433
  interfaces := #[]
  cf := some (fileOf pool6 1 #[] #[{ accessFlags := 1, nameIndex := 67, descriptorIndex := 68, attributes := #[] }] 16433 38 #[] #[{ accessFlags := 16409, nameIndex := 5, descriptorIndex := 6, attributes := #[] }, { accessFlags := 16409, nameIndex := 9, descriptorIndex := 6, attributes := #[] }, { accessFlags := 16409, nameIndex := 12, descriptorIndex := 6, attributes := #[] }, { accessFlags := 16409, nameIndex := 15, descriptorIndex := 6, attributes := #[] }, { accessFlags := 16409, nameIndex := 18, descriptorIndex := 6, attributes := #[] }, { accessFlags := 16409, nameIndex := 21, descriptorIndex := 6, attributes := #[] }, { accessFlags := 16409, nameIndex := 24, descriptorIndex := 6, attributes := #[] }, { accessFlags := 16409, nameIndex := 27, descriptorIndex := 6, attributes := #[] }, { accessFlags := 4122, nameIndex := 30, descriptorIndex := 31, attributes := #[] }])
  fields := #[{ name := "STARTING", type := (.object "com/example/ajo/ajo/BatchStatus"), accessFlags := 16409, slot := 0, constantValue := 0 }, { name := "STARTED", type := (.object "com/example/ajo/ajo/BatchStatus"), accessFlags := 16409, slot := 1, constantValue := 0 }, { name := "STOPPING", type := (.object "com/example/ajo/ajo/BatchStatus"), accessFlags := 16409, slot := 2, constantValue := 0 }, { name := "STOPPED", type := (.object "com/example/ajo/ajo/BatchStatus"), accessFlags := 16409, slot := 3, constantValue := 0 }, { name := "FAILED", type := (.object "com/example/ajo/ajo/BatchStatus"), accessFlags := 16409, slot := 4, constantValue := 0 }, { name := "COMPLETED", type := (.object "com/example/ajo/ajo/BatchStatus"), accessFlags := 16409, slot := 5, constantValue := 0 }, { name := "ABANDONED", type := (.object "com/example/ajo/ajo/BatchStatus"), accessFlags := 16409, slot := 6, constantValue := 0 }, { name := "UNKNOWN", type := (.object "com/example/ajo/ajo/BatchStatus"), accessFlags := 16409, slot := 7, constantValue := 0 }, { name := "$VALUES", type := (.array (.object "com/example/ajo/ajo/BatchStatus")), accessFlags := 4122, slot := 8, constantValue := 0 }]
  methods := #[k6m0]
  instanceTypes := #[(.object "java/lang/String"), .int, .int]
  staticTypes := #[(.object "com/example/ajo/ajo/BatchStatus"), (.object "com/example/ajo/ajo/BatchStatus"), (.object "com/example/ajo/ajo/BatchStatus"), (.object "com/example/ajo/ajo/BatchStatus"), (.object "com/example/ajo/ajo/BatchStatus"), (.object "com/example/ajo/ajo/BatchStatus"), (.object "com/example/ajo/ajo/BatchStatus"), (.object "com/example/ajo/ajo/BatchStatus"), (.array (.object "com/example/ajo/ajo/BatchStatus"))]
  resolved := Array.replicate 75 none
  statics := some 0 }

def pool7 : Array CpInfo := pool [(1, u "java/lang/Cloneable"), (0, .class_ 1), (0, u "java/lang/Object"), (0, .class_ 3)] 3

/-- java/lang/Cloneable -/
def k7 : Class := { plain "java/lang/Cloneable" (some 0) with
  accessFlags := 1537
  interfaces := #[]
  cf := some (fileOf pool7 2 #[] #[] 1537 4 #[] #[])
  fields := #[]
  methods := #[]
  instanceTypes := #[]
  staticTypes := #[]
  resolved := Array.replicate 8 none
  statics := none }

/-- the primitive byte -/
def k8 : Class := { plain "byte" none with kind := .primitive 'B', accessFlags := 0x411 }
/-- [B -/
def k9 : Class := { plain "[B" (some 0) with kind := .array 8 .byte, interfaces := #[7, 4], accessFlags := 1041 }

/-- the primitive int -/
def k10 : Class := { plain "int" none with kind := .primitive 'I', accessFlags := 0x411 }
/-- [I -/
def k11 : Class := { plain "[I" (some 0) with kind := .array 10 .int, interfaces := #[7, 4], accessFlags := 1041 }

def heap : Heap := #[{ cls := 6, slots := #[.ref 1, .ref 3, .ref 4, .ref 2, .ref 7, .ref 8, .ref 5, .ref 6, .null], vm := .statics 6 },
  { cls := 6, slots := #[.null, .int 0, .int 0], vm := .none },
  { cls := 6, slots := #[.null, .int 3, .int 0], vm := .none },
  { cls := 6, slots := #[.null, .int 1, .int 0], vm := .none },
  { cls := 6, slots := #[.null, .int 2, .int 0], vm := .none },
  { cls := 6, slots := #[.null, .int 6, .int 0], vm := .none },
  { cls := 6, slots := #[.null, .int 7, .int 0], vm := .none },
  { cls := 6, slots := #[.null, .int 4, .int 0], vm := .none },
  { cls := 6, slots := #[.null, .int 5, .int 0], vm := .none }]
def classes : Array Class := #[k0, k1, k2, k3, k4, k5, k6, k7, k8, k9, k10, k11]
def interned : List (Array UInt16 × Addr) := []
def slotsUsed : Nat := 33
def theMethod : MethodId := ⟨1, 3⟩
def args0 : Array Value := #[.int 5]
def aboutOver (below : List Frame) : State where
  vm := { classes := classes, interned := interned.toArray }
  heap := heap
  slotsUsed := slotsUsed
  threads := #[{ frames := .invoking theMethod args0 :: below }]
def below0 : List Frame := [.native { method := ⟨0, 0⟩, args := #[] }]
def about1 : State := aboutOver below0
def p0 : Program := .bare "" "" ""
def e0 : Env := launch0.env 0 0 0
theorem w_frames : about1.frames = Frame.invoking theMethod args0 :: below0 := rfl
set_option maxRecDepth 65536 in
theorem w_args : argsFit about1.vm theMethod args0 = true := by decide +kernel
set_option maxRecDepth 65536 in
theorem w_heap : heapFits about1 = true := by decide +kernel
set_option maxRecDepth 65536 in
theorem w_runnable : about1.curStatus? = some .runnable := by decide +kernel
set_option maxRecDepth 65536 in
theorem w_alone : about1.alone = true := by decide +kernel
set_option maxRecDepth 65536 in
theorem w_named : about1.methodNamed? x = some theMethod := by decide +kernel
set_option maxRecDepth 65536 in
theorem w_hears : about1.hears theMethod below0 = true := by decide +kernel
set_option maxRecDepth 65536 in
theorem w_ripe : about1.ripe theMethod args0 below0 = true := by decide +kernel
theorem w_running : about1.status = .running := rfl
set_option maxRecDepth 65536 in
theorem w_room : about1.hasRoom e0.platform room_1 = true :=
  launch0.hasRoom_least _ room_1 (by decide +kernel) (by decide +kernel) (by decide +kernel) (by decide +kernel) (by decide +kernel) (by decide +kernel)
theorem allAtoms_all (ts : List Jvm.Cond) (a : Array Jvm.Value) (st : Jvm.State) : (allAtoms ts).before a st = ts.all (fun c => c.before a st) := by
  induction ts with
  | nil => rfl
  | cons c t ih =>
    show (Jvm.Cond.and c (allAtoms t)).before a st = _
    rw [Jvm.Cond.before_and, ih, List.all_cons]
def words1 : List Jvm.Cond := Jvm.Cond.code x code maxLocals ret :: tables_1
/-- a 'code' word, met by the world's own term for the bytes: nothing is compared byte by byte -/
theorem code_word {y : MethodName} {bytes : ByteArray} {mx : Nat} {rt : Option FieldType} {a : Array Value} {s : State} {m : MethodId} {meth : Method} {c : Code} (h1 : s.methodNamed? y = some m) (h2 : s.vm.method? m = some meth) (h3 : meth.code = some c) (h4 : c.code = bytes)
    (h5 : (c.maxLocals == mx && c.exceptionTable.isEmpty && decide (c.maxStack ≤ mostOperands) && decide (meth.sig.returnType = rt) && !meth.locks && decide (parseMethodDescriptor y.desc = some meth.sig)) = true) : (Jvm.Cond.code y bytes mx rt).before a s = true := by
  simp only [Bool.and_eq_true, beq_iff_eq, Bool.not_eq_true', decide_eq_true_eq] at h5
  obtain ⟨⟨⟨⟨⟨g1, g2⟩, g3⟩, g4⟩, g5⟩, g6⟩ := h5
  simp [Cond.before, Cond.holds, Cond.value, h1, h2, h3, h4, g1, g2, g3, g4, g5, g6]
def isCode : Jvm.Cond → Bool
  | .code _ _ _ _ => true
  | _ => false
theorem all_split {L : List Jvm.Cond} {P : Jvm.Cond → Bool} (h1 : L.all (fun c => isCode c || P c) = true) (h2 : ∀ c ∈ L.filter isCode, P c = true) : L.all P = true := by
  refine List.all_eq_true.mpr fun c hc => ?_
  have h := List.all_eq_true.mp h1 c hc
  rcases Bool.eq_false_or_eq_true (isCode c) with hi | hi
  · exact h2 c (List.mem_filter.mpr ⟨hc, hi⟩)
  · simpa [hi] using h
set_option maxRecDepth 65536 in
theorem w_c0 : (Jvm.Cond.code x code maxLocals ret).before args0 about1 = true := code_word (m := ⟨1, 3⟩) (meth := k1m3) (c := k1c3) (by decide +kernel) rfl rfl rfl (by decide +kernel)
set_option maxRecDepth 65536 in
theorem w_c1 : (Jvm.Cond.code ({ cls := "com/example/ajo/ajo/BatchStatusIsRunningPinLaw", name := "pick", desc := "(I)Lcom/example/ajo/ajo/BatchStatus;" } : Jvm.MethodName) method_2_code (1 : Nat) (Option.some (Jvm.ClassFile.FieldType.object "com/example/ajo/ajo/BatchStatus"))).before args0 about1 = true := code_word (m := ⟨1, 1⟩) (meth := k1m1) (c := k1c1) (by decide +kernel) rfl rfl rfl (by decide +kernel)
set_option maxRecDepth 65536 in
theorem w_c2 : (Jvm.Cond.code ({ cls := "com/example/ajo/ajo/BatchStatus", name := "isRunning", desc := "()Z" } : Jvm.MethodName) prog_1_method_4_code (1 : Nat) (Option.some Jvm.ClassFile.FieldType.boolean)).before args0 about1 = true := code_word (m := ⟨6, 0⟩) (meth := k6m0) (c := k6c0) (by decide +kernel) rfl rfl rfl (by decide +kernel)
set_option maxRecDepth 65536 in
theorem w_c3 : (Jvm.Cond.code ({ cls := "com/example/ajo/ajo/BatchStatusIsRunningPinLaw", name := "expectedRunning", desc := "(I)Z" } : Jvm.MethodName) method_3_code (1 : Nat) (Option.some Jvm.ClassFile.FieldType.boolean)).before args0 about1 = true := code_word (m := ⟨1, 2⟩) (meth := k1m2) (c := k1c2) (by decide +kernel) rfl rfl rfl (by decide +kernel)
def codes1 : List Jvm.Cond := [Jvm.Cond.code x code maxLocals ret, Jvm.Cond.code ({ cls := "com/example/ajo/ajo/BatchStatusIsRunningPinLaw", name := "pick", desc := "(I)Lcom/example/ajo/ajo/BatchStatus;" } : Jvm.MethodName) method_2_code (1 : Nat) (Option.some (Jvm.ClassFile.FieldType.object "com/example/ajo/ajo/BatchStatus")), Jvm.Cond.code ({ cls := "com/example/ajo/ajo/BatchStatus", name := "isRunning", desc := "()Z" } : Jvm.MethodName) prog_1_method_4_code (1 : Nat) (Option.some Jvm.ClassFile.FieldType.boolean), Jvm.Cond.code ({ cls := "com/example/ajo/ajo/BatchStatusIsRunningPinLaw", name := "expectedRunning", desc := "(I)Z" } : Jvm.MethodName) method_3_code (1 : Nat) (Option.some Jvm.ClassFile.FieldType.boolean)]
set_option maxRecDepth 65536 in
theorem codes_eq : words1.filter isCode = codes1 := rfl
theorem w_codes : ∀ c ∈ words1.filter isCode, c.before args0 about1 = true := by
  rw [codes_eq]
  intro c hc
  simp only [codes1, List.mem_cons, List.not_mem_nil, or_false] at hc
  rcases hc with rfl | rfl | rfl | rfl
  · exact w_c0
  · exact w_c1
  · exact w_c2
  · exact w_c3
set_option maxRecDepth 65536 in
theorem w_t1 : (words1.take 24).all (fun c => isCode c || c.before args0 about1) = true := by decide +kernel
set_option maxRecDepth 65536 in
theorem w_t2 : (words1.drop 24).all (fun c => isCode c || c.before args0 about1) = true := by decide +kernel
theorem w_tables : (allAtoms (Jvm.Cond.code x code maxLocals ret :: tables_1)).before args0 about1 = true := by
  rw [allAtoms_all]
  show words1.all (fun c => c.before args0 about1) = true
  refine all_split ?_ w_codes
  rw [← List.take_append_drop 24 words1, List.all_append, w_t1, w_t2]
  rfl
set_option maxRecDepth 65536 in
theorem w_case : (Jvm.Cond.and given_1 narrow_1).before args0 about1 = true := by decide +kernel
theorem w_applies : (headSpec (Jvm.Cond.code x code maxLocals ret :: tables_1) room_1).applies x e0.platform about1 = true :=
  (Spec.applies_iff w_frames).mpr ⟨w_running, w_runnable, w_alone, w_named, w_hears, w_ripe, w_room, w_tables⟩
theorem atStart : AtStart classFile x code maxLocals ret World_1 tables_1 room_1 Calls_1 rest_1 Pre_1 launch0 p0 e0 about1 theMethod args0 below0 :=
  ⟨lists_1, trivial, launch0.admits_env _ _ _, launch0.least_env, fairChoices_fair.cas, fairChoices_fair.clock, w_frames, w_args, w_heap, w_applies, trivial, trivial, w_case⟩
end start1
theorem witness_1 : WitnessClaimed_1 := ⟨start1.p0, start1.e0, start1.about1, start1.theMethod, start1.args0, start1.below0, start1.atStart⟩
end Jvm.Pilot.@@N@@
