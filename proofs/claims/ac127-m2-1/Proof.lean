import JvmDerived
import JvmDerived.Pilot.@@N@@Statement
import JvmDerived.Pilot.@@N@@Code
set_option linter.unusedVariables false
set_option linter.unusedSimpArgs false
namespace Jvm.RoadKit
open Sem ClassFile Op Lib Jvm.Stand Jvm.Free Jvm.LawKit
section New
variable {p : Program} {l : Launch} {e : Env} {R : Room} {s : State} {m : MethodId} {args : Array Value} {below : List Frame} {meth : Method} {c : Code} {T : State} {locs : List Loc} {cells slots : Nat}
theorem own_retV (X : Stand p l e R s m args below meth c T locs cells slots) (hx : p.tables.exec = Jvm.exec) {pc : Nat} {Ls : Array Slot} {w : Value} {rest : List Value} {t : FieldType} (hret : meth.sig.returnType = some t) (ht : t.isReference = true) (hw : w.isRef = true)
    (hd : decode c.code pc = .ok (.areturn, 1)) {fs : List Frame} (hl : ∀ (f : JFrame) (acts : List Action), f.method = m → f.locked = none → f.entered = [] → (doReturn e (T.setTop f) acts (some w)).1 = T.setFrames fs) :
    Steps p.tables e below (T.setTop (mkF m pc Ls (w :: rest))) (T.setFrames fs) :=
  retOut X hx hret (by cases t <;> first | rfl | cases ht) (Or.inr (Or.inr (Or.inr (Or.inr ⟨rfl, ht, hw⟩)))) hd hl
theorem own_retI (X : Stand p l e R s m args below meth c T locs cells slots) (hx : p.tables.exec = Jvm.exec) {pc : Nat} {Ls : Array Slot} {z : Int32} {rest : List Value} (hret : meth.sig.returnType = some .int)
    (hd : decode c.code pc = .ok (.ireturn, 1)) {fs : List Frame} (hl : ∀ (f : JFrame) (acts : List Action), f.method = m → f.locked = none → f.entered = [] → (doReturn e (T.setTop f) acts (some (.int z))).1 = T.setFrames fs) :
    Steps p.tables e below (T.setTop (mkF m pc Ls (.int z :: rest))) (T.setFrames fs) :=
  retOut X hx hret rfl (Or.inl ⟨rfl, Or.inl rfl, z, rfl⟩) hd hl
theorem own_retL (X : Stand p l e R s m args below meth c T locs cells slots) (hx : p.tables.exec = Jvm.exec) {pc : Nat} {Ls : Array Slot} {z : Int64} {rest : List Value} (hret : meth.sig.returnType = some .long)
    (hd : decode c.code pc = .ok (.lreturn, 1)) {fs : List Frame} (hl : ∀ (f : JFrame) (acts : List Action), f.method = m → f.locked = none → f.entered = [] → (doReturn e (T.setTop f) acts (some (.long z))).1 = T.setFrames fs) :
    Steps p.tables e below (T.setTop (mkF m pc Ls (.long z :: rest))) (T.setFrames fs) :=
  retOut X hx hret rfl (Or.inr (Or.inl ⟨rfl, rfl, z, rfl⟩)) hd hl
theorem own_go {tb : Tables} {e : Env} {below : List Frame} {A A' : State} {P : State → Outcome → Prop} (st : ∀ t, Steps tb e below A' t → Steps tb e below A t) (h : ∃ s₂ o, Steps tb e below A' s₂ ∧ P s₂ o) : ∃ s₂ o, Steps tb e below A s₂ ∧ P s₂ o :=
  let ⟨s₂, o, h1, h2⟩ := h
  ⟨s₂, o, st _ h1, h2⟩
theorem own_fld_inj {Z : State} {h : Heap} {a : Addr} {C n d : String} {v w : Value} (F : Fld Z h a C n d v) (G : Fld Z h a C n d w) : v = w := by
  obtain ⟨c1, cf1, k1, i1, f1, p1, p2, -, -, -, -, p5⟩ := F
  obtain ⟨c2, cf2, k2, i2, f2, q1, q2, -, -, -, -, q5⟩ := G
  rw [p1] at q1; cases q1
  rw [p2] at q2; cases q2
  have := p5.symm.trans q5
  simpa using this
theorem own_fld_ne {Z : State} {h : Heap} {a b : Addr} {C n d : String} {i j : Int32} (F : Fld Z h a C n d (.int i)) (G : Fld Z h b C n d (.int j)) (hij : ¬ i = j) : ¬ a = b := fun q => by
  subst q
  exact hij (Value.int.inj (own_fld_inj F G))
theorem own_keep_ext {h h' : Heap} (K : Keep h h' []) : Ext h h' := ⟨K.1, fun a c q => K.2.1 a c q nin0⟩
theorem own_sta_keep {Z : State} {h h' : Heap} {C n d K : String} {v : Value} {a : Addr} (F : Sta Z h C n d v) (k : Keep h h' [a]) (E : Exa Z h a K) : Sta Z h' C n d v := by
  obtain ⟨cf, i, kk, f, st, cell, h1, h2, h3, h4, h5, h6, h7⟩ := F
  refine ⟨cf, i, kk, f, st, cell, h1, h2, h3, h4, k.2.1 _ _ h5 (ninS (fun q => ?_) nin0), h6, h7⟩
  obtain ⟨cell', k', g1, -, -, g4, -⟩ := E
  subst q
  cases h5.symm.trans g1
  rw [h6] at g4; cases g4
theorem own_ext_trans {h h' h'' : Heap} (E : Ext h h') (F : Ext h' h'') : Ext h h'' := ⟨Nat.le_trans E.1 F.1, fun a c q => F.2 a c (E.2 a c q)⟩
theorem own_ext_keep {h h' h'' : Heap} {ws : List Addr} (E : Ext h h') (K : Keep h' h'' ws) (q : ∀ x ∈ ws, h.size ≤ x) : Ext h h'' :=
  ⟨Nat.le_trans E.1 K.1, fun a c r => K.2.1 a c (E.2 a c r) fun z => absurd (Array.getElem?_eq_some_iff.mp r).1 (Nat.not_lt.mpr (q a z))⟩
theorem own_ext_wr {h h' h'' : Heap} {b : Addr} {sl : Nat} {v : Value} (E : Ext h h') (W : Wr h' h'' b sl v) (q : h.size ≤ b) : Ext h h'' :=
  own_ext_keep E (Keep.of_wr W) fun x hx => by cases List.mem_singleton.mp hx; exact q
end New
end Jvm.RoadKit
namespace Jvm.Pilot.@@N@@
open Jvm Jvm.ClassFile Sem Op Lib Jvm.Free Jvm.Stand Jvm.LawKit Jvm.RoadKit Bundle Jvm.Pilot.@@N@@.Jvm.D
def hold (o c : Int32) : Int32 := if o = (0 : Int32) then (if c < (0 : Int32) then 1 else 0) else if o = (1 : Int32) then (if (0 : Int32) < c then 0 else 1) else if o = (2 : Int32) then (if c = (0 : Int32) then 1 else 0) else if o = (3 : Int32) then (if c = (0 : Int32) then 0 else 1) else if o = (4 : Int32) then (if c < (0 : Int32) then 0 else 1) else (if (0 : Int32) < c then 1 else 0)
theorem own_hA {x : Int32} (h : x < (0 : Int32)) : ¬ (0 : Int32) < x ∧ ¬ x = (0 : Int32) := by
  have e0 : (0 : Int32).toInt = 0 := by decide
  rw [Int32.lt_iff_toInt_lt, e0] at h
  rw [Int32.lt_iff_toInt_lt, ← Int32.toInt_inj, e0]
  omega
theorem own_hC {x : Int32} (h : ¬ x < (0 : Int32)) (h' : ¬ x = (0 : Int32)) : (0 : Int32) < x := by
  have e0 : (0 : Int32).toInt = 0 := by decide
  rw [Int32.lt_iff_toInt_lt, e0] at h
  rw [← Int32.toInt_inj, e0] at h'
  rw [Int32.lt_iff_toInt_lt, e0]
  omega
theorem d2_0 : decode jdk_37_method_2_code 0 = .ok (.aload_n 0, 1) := by decide +kernel
theorem d2_1 : decode jdk_37_method_2_code 1 = .ok (.getfield 7, 3) := by decide +kernel
theorem d2_4 : decode jdk_37_method_2_code 4 = .ok (.ireturn, 1) := by decide +kernel
theorem pn_2 : plainName "java/lang/Enum" = true := by first | (simp [plainName, overriddenIn]; done) | decide +kernel
theorem ef_2 (m : MethodId) (r0 : Addr) : entryFrame m #[(.ref r0)] 1 = mkF m 0 #[.val (.ref r0)] [] := by first | (simp [entryFrame, mkF, argsToLocals, Value.category]; done) | rfl
def Q2 (Z : State) (r0 : Addr) (ko : Int32) (h0 : Heap) (n0 : Nat) (v : Option Value) (h : Heap) (L : List Loc) : Prop := v = some (.int ko) ∧ Fr n0 L ∧ h = h0
set_option maxRecDepth 65536 in
set_option maxHeartbeats 40000000 in
theorem rm2 (l : Launch) (Z : State) (a0 : Array Value) (hw : ∀ d ∈ tables_1, d.before a0 Z = true) (ws : List Jvm.Cond) (r0 : Addr) (ko : Int32) (h0 : Heap) (n0 : Nat) (Z0 : n0 ≤ h0.size) (F1 : Fld Z h0 r0 "java/lang/Enum" "ordinal" "I" (.int ko)) :
    MetFree l (⟨"java/lang/Enum", "ordinal", "()I"⟩ : MethodName) (head1 (Jvm.Cond.code (⟨"java/lang/Enum", "ordinal", "()I"⟩ : MethodName) jdk_37_method_2_code 1 (some .int) :: ws) ({ frames := 0, cells := 0, slots := 0, locals := 0 } : Room)) (fun a U => a = #[(.ref r0)] ∧ Z.Warmed39 U.vm ∧ U.heap = h0) (fun _ _ _ _ _ => True) (fun _ U o U' => ∃ v L, o = .returned v ∧ Q2 Z r0 ko h0 n0 v U'.heap L ∧ FrameEnd U o U' L ({ frames := 0, cells := 0, slots := 0, locals := 0 } : Room).cells ({ frames := 0, cells := 0, slots := 0, locals := 0 } : Room).slots) := by
  refine MetFree.of_bodySF (plainFor_of_name pn_2) hisR ?_
  intro p e s m args below meth c s₁ Bd hml0 hP hK
  obtain ⟨rfl, hZ, hh⟩ := hP
  have hx := Bd.exec
  have hby := Bd.bytes
  have hml : c.maxLocals = 1 := hml0
  have hown : s.vm.findClass "java/lang/Enum" = some m.cls := findClass_of_methodNamed Bd.named
  have hnm := (name_of_methodNamed Bd.named Bd.method).1
  have X0 : Stand p l e ({ frames := 0, cells := 0, slots := 0, locals := 0 } : Room) s m #[(.ref r0)] below meth c s₁ [] 0 0 := Stand.of_body Bd
  have e0 : s₁.heap = h0 := by rw [← hh, Bd.state]; rfl
  have N0 := Fr.nil n0
  refine own_go (A' := (s₁.setTop (mkF m 0 #[.val (.ref r0)] []))) (fun t k => castTop (ef_2 m r0) k) ?_
  obtain ⟨T1, X1, e1, st1⟩ := getF X0 hx hZ hown (host := "") (Or.inl (hw _ (List.mem_of_getElem? (i := 16) rfl))) Via.refl e0 F1 (g := (mkF m 1 #[.val (.ref r0)] [(.ref r0)])) rfl rfl (hb hby d2_1)
  refine own_go (A' := (T1.setTop (mkF m 4 #[.val (.ref r0)] [(.int ko)]))) (fun t k => ?_) ?_
  · show Steps p.tables e below (s₁.setTop (mkF m 0 #[.val (.ref r0)] [])) _
    refine XS.aloadN X0.here hx rfl (hb hby d2_0) rfl rfl ?_
    show Steps p.tables e below (s₁.setTop (mkF m 1 #[.val (.ref r0)] [(.ref r0)])) _
    refine st1 _ ?_
    exact k
  obtain ⟨fs, hr, hrun, hended, hW, hsame⟩ := X1.leave (v := some (.int ko)) (fun h => by rw [Bd.returns] at h; cases h)
  refine ⟨_, _, ?_, hrun, hended, _, _, rfl, ?_, ⟨_, rfl⟩, hW, hsame.mono (by decide) (by decide)⟩
  · show Steps p.tables e below (T1.setTop (mkF m 4 #[.val (.ref r0)] [(.int ko)])) _
    exact own_retI X1 hx Bd.returns (hb hby d2_4) hr
  · show Q2 Z r0 ko h0 n0 _ _ _
    exact ⟨rfl, N0, e1⟩
theorem pd_0 : parseMethodDescriptor "()I" = some ⟨[], some .int⟩ := by decide +kernel
theorem d1_0 : decode prog_107_method_4_code 0 = .ok (.aload_n 0, 1) := by decide +kernel
theorem d1_1 : decode prog_107_method_4_code 1 = .ok (.invokevirtual 41, 3) := by decide +kernel
theorem d1_4 : decode prog_107_method_4_code 4 = .ok (.tableswitch 40 0 5 #[50, 62, 74, 86, 98, 110], 40) := by decide +kernel
theorem d1_54 : decode prog_107_method_4_code 54 = .ok (.iload_n 1, 1) := by decide +kernel
theorem d1_55 : decode prog_107_method_4_code 55 = .ok (.ifCond .ge 7, 3) := by decide +kernel
theorem d1_58 : decode prog_107_method_4_code 58 = .ok (.iconst 1, 1) := by decide +kernel
theorem d1_59 : decode prog_107_method_4_code 59 = .ok (.goto 64, 3) := by decide +kernel
theorem d1_62 : decode prog_107_method_4_code 62 = .ok (.iconst 0, 1) := by decide +kernel
theorem d1_63 : decode prog_107_method_4_code 63 = .ok (.goto 60, 3) := by decide +kernel
theorem d1_66 : decode prog_107_method_4_code 66 = .ok (.iload_n 1, 1) := by decide +kernel
theorem d1_67 : decode prog_107_method_4_code 67 = .ok (.ifCond .gt 7, 3) := by decide +kernel
theorem d1_70 : decode prog_107_method_4_code 70 = .ok (.iconst 1, 1) := by decide +kernel
theorem d1_71 : decode prog_107_method_4_code 71 = .ok (.goto 52, 3) := by decide +kernel
theorem d1_74 : decode prog_107_method_4_code 74 = .ok (.iconst 0, 1) := by decide +kernel
theorem d1_75 : decode prog_107_method_4_code 75 = .ok (.goto 48, 3) := by decide +kernel
theorem d1_78 : decode prog_107_method_4_code 78 = .ok (.iload_n 1, 1) := by decide +kernel
theorem d1_79 : decode prog_107_method_4_code 79 = .ok (.ifCond .ne 7, 3) := by decide +kernel
theorem d1_82 : decode prog_107_method_4_code 82 = .ok (.iconst 1, 1) := by decide +kernel
theorem d1_83 : decode prog_107_method_4_code 83 = .ok (.goto 40, 3) := by decide +kernel
theorem d1_86 : decode prog_107_method_4_code 86 = .ok (.iconst 0, 1) := by decide +kernel
theorem d1_87 : decode prog_107_method_4_code 87 = .ok (.goto 36, 3) := by decide +kernel
theorem d1_90 : decode prog_107_method_4_code 90 = .ok (.iload_n 1, 1) := by decide +kernel
theorem d1_91 : decode prog_107_method_4_code 91 = .ok (.ifCond .eq 7, 3) := by decide +kernel
theorem d1_94 : decode prog_107_method_4_code 94 = .ok (.iconst 1, 1) := by decide +kernel
theorem d1_95 : decode prog_107_method_4_code 95 = .ok (.goto 28, 3) := by decide +kernel
theorem d1_98 : decode prog_107_method_4_code 98 = .ok (.iconst 0, 1) := by decide +kernel
theorem d1_99 : decode prog_107_method_4_code 99 = .ok (.goto 24, 3) := by decide +kernel
theorem d1_102 : decode prog_107_method_4_code 102 = .ok (.iload_n 1, 1) := by decide +kernel
theorem d1_103 : decode prog_107_method_4_code 103 = .ok (.ifCond .lt 7, 3) := by decide +kernel
theorem d1_106 : decode prog_107_method_4_code 106 = .ok (.iconst 1, 1) := by decide +kernel
theorem d1_107 : decode prog_107_method_4_code 107 = .ok (.goto 16, 3) := by decide +kernel
theorem d1_110 : decode prog_107_method_4_code 110 = .ok (.iconst 0, 1) := by decide +kernel
theorem d1_111 : decode prog_107_method_4_code 111 = .ok (.goto 12, 3) := by decide +kernel
theorem d1_114 : decode prog_107_method_4_code 114 = .ok (.iload_n 1, 1) := by decide +kernel
theorem d1_115 : decode prog_107_method_4_code 115 = .ok (.ifCond .le 7, 3) := by decide +kernel
theorem d1_118 : decode prog_107_method_4_code 118 = .ok (.iconst 1, 1) := by decide +kernel
theorem d1_119 : decode prog_107_method_4_code 119 = .ok (.goto 4, 3) := by decide +kernel
theorem d1_122 : decode prog_107_method_4_code 122 = .ok (.iconst 0, 1) := by decide +kernel
theorem d1_123 : decode prog_107_method_4_code 123 = .ok (.ireturn, 1) := by decide +kernel
theorem pn_1 : plainName "com/example/pathwarden/pathwarden/flow/Relation" = true := by first | (simp [plainName, overriddenIn]; done) | decide +kernel
theorem ef_1 (m : MethodId) (r0 : Addr) (p1 : Int32) : entryFrame m #[(.ref r0), (.int p1)] 2 = mkF m 0 #[.val (.ref r0), .val (.int p1)] [] := by first | (simp [entryFrame, mkF, argsToLocals, Value.category]; done) | rfl
def Q1 (Z : State) (r0 : Addr) (p1 : Int32) (ko : Int32) (h0 : Heap) (n0 : Nat) (v : Option Value) (h : Heap) (L : List Loc) : Prop := v = some (.int (hold ko p1)) ∧ Fr n0 L ∧ h = h0
set_option maxRecDepth 65536 in
set_option maxHeartbeats 40000000 in
theorem rm1 (l : Launch) (Z : State) (a0 : Array Value) (hw : ∀ d ∈ tables_1, d.before a0 Z = true) (ws : List Jvm.Cond) (r0 : Addr) (p1 : Int32) (ko : Int32) (h0 : Heap) (n0 : Nat) (Z0 : n0 ≤ h0.size) (F1 : Fld Z h0 r0 "java/lang/Enum" "ordinal" "I" (.int ko)) (E1 : Exa Z h0 r0 "com/example/pathwarden/pathwarden/flow/Relation") (hko : ko = 0 ∨ ko = 1 ∨ ko = 2 ∨ ko = 3 ∨ ko = 4 ∨ ko = 5) :
    MetFree l (⟨"com/example/pathwarden/pathwarden/flow/Relation", "holds", "(I)Z"⟩ : MethodName) (head1 (Jvm.Cond.code (⟨"com/example/pathwarden/pathwarden/flow/Relation", "holds", "(I)Z"⟩ : MethodName) prog_107_method_4_code 2 (some .boolean) :: ws) ({ frames := 1, cells := 0, slots := 0, locals := 12 } : Room)) (fun a U => a = #[(.ref r0), (.int p1)] ∧ Z.Warmed39 U.vm ∧ U.heap = h0) (fun _ _ _ _ _ => True) (fun _ U o U' => ∃ v L, o = .returned v ∧ Q1 Z r0 p1 ko h0 n0 v U'.heap L ∧ FrameEnd U o U' L ({ frames := 1, cells := 0, slots := 0, locals := 12 } : Room).cells ({ frames := 1, cells := 0, slots := 0, locals := 12 } : Room).slots) := by
  refine MetFree.of_bodySF (plainFor_of_name pn_1) hisR ?_
  intro p e s m args below meth c s₁ Bd hml0 hP hK
  obtain ⟨rfl, hZ, hh⟩ := hP
  have hx := Bd.exec
  have hby := Bd.bytes
  have hml : c.maxLocals = 2 := hml0
  have hown : s.vm.findClass "com/example/pathwarden/pathwarden/flow/Relation" = some m.cls := findClass_of_methodNamed Bd.named
  have hnm := (name_of_methodNamed Bd.named Bd.method).1
  have X0 : Stand p l e ({ frames := 1, cells := 0, slots := 0, locals := 12 } : Room) s m #[(.ref r0), (.int p1)] below meth c s₁ [] 0 0 := Stand.of_body Bd
  have e0 : s₁.heap = h0 := by rw [← hh, Bd.state]; rfl
  have N0 := Fr.nil n0
  refine own_go (A' := (s₁.setTop (mkF m 0 #[.val (.ref r0), .val (.int p1)] []))) (fun t k => castTop (ef_1 m r0 p1) k) ?_
  obtain ⟨cq2, kq2, q2a, q2b, q2c⟩ := isOf hZ e0 E1
  obtain ⟨_, _, ⟨T2, L2, k2, n2⟩, -, X2, ⟨Lc2, hQ2, l2, y2, z2⟩, st2⟩ := X0.virtualBackUp hx (x := (⟨"com/example/pathwarden/pathwarden/flow/Relation", "ordinal", "()I"⟩ : MethodName)) (y := (⟨"java/lang/Enum", "ordinal", "()I"⟩ : MethodName)) (owner := "java/lang/Enum") hown (mvT hZ (hw _ (List.mem_of_getElem? (i := 9) rfl))) (mvT hZ (hw _ (List.mem_of_getElem? (i := 10) rfl))) (mvT hZ (hw _ (List.mem_of_getElem? (i := 11) rfl))) (by decide) (mvT hZ (hw _ (List.mem_of_getElem? (i := 13) rfl))) (mvT hZ (hw _ (List.mem_of_getElem? (i := 12) rfl))) (backOf (W := 0) (rm2 l Z a0 hw [] r0 ko h0 n0 Z0 F1) hZ (hw _ (List.mem_of_getElem? (i := 15) rfl)) (hw _ (List.mem_of_getElem? (i := 14) rfl)) (by decide) (by decide)) q2a q2c (g := (mkF m 1 #[.val (.ref r0), .val (.int p1)] [(.ref r0)])) rfl (by rw [hml]; rfl) (Steps.refl _) (argsL := []) (rest := []) (lenOf pd_0 rfl) rfl (by show 2 * 0 + _ ≤ _; exact Nat.le_of_eq rfl) (hb hby d1_1) (fun _ _ => ⟨rfl, e0, (by decide : 0 + 0 ≤ _), (by decide : 0 + 0 ≤ _)⟩)
  dsimp only [Pt.U, Pt.locs, Pt.cells, Pt.slots] at X2 l2 y2 z2 st2 hQ2
  subst l2 y2 z2
  obtain ⟨rfl, N2q, e2⟩ := hQ2
  have N2 := Fr.app N0 N2q
  refine own_go (A' := (T2.setTop (mkF m 4 #[.val (.ref r0), .val (.int p1)] [(.int ko)]))) (fun t k => ?_) ?_
  · show Steps p.tables e below (s₁.setTop (mkF m 0 #[.val (.ref r0), .val (.int p1)] [])) _
    refine XS.aloadN X0.here hx rfl (hb hby d1_0) rfl rfl ?_
    show Steps p.tables e below (s₁.setTop (mkF m 1 #[.val (.ref r0), .val (.int p1)] [(.ref r0)])) _
    refine st2.trans ?_
    exact k
  by_cases hc3 : ko = (0 : Int32)
  · -- hc3: yes
    refine own_go (A' := (T2.setTop (mkF m 54 #[.val (.ref r0), .val (.int p1)] []))) (fun t k => XS.tswIn X2.here hx rfl (o := 50) (pc0 := 4) (pc' := 54) rfl (hb hby d1_4) rfl (by rw [hc3]; decide) (by rw [hc3]; decide) (by decide) (by decide) k) ?_
    refine own_go (A' := (T2.setTop (mkF m 55 #[.val (.ref r0), .val (.int p1)] [(.int p1)]))) (fun t k => ?_) ?_
    · show Steps p.tables e below (T2.setTop (mkF m 54 #[.val (.ref r0), .val (.int p1)] [])) _
      refine XS.iloadN X2.here hx rfl (hb hby d1_54) rfl ?_
      exact k
    by_cases hc4 : p1 < (0 : Int32)
    · -- hc4: yes
      refine own_go (A' := (T2.setTop (mkF m 58 #[.val (.ref r0), .val (.int p1)] []))) (fun t k => XS.ifNo X2.here hx rfl (hb hby d1_55) rfl ((if0 _ _).trans (tlt hc4).2.1) k) ?_
      refine own_go (A' := (T2.setTop (mkF m 123 #[.val (.ref r0), .val (.int p1)] [(.int (1 : Int32))]))) (fun t k => ?_) ?_
      · show Steps p.tables e below (T2.setTop (mkF m 58 #[.val (.ref r0), .val (.int p1)] [])) _
        refine XS.iconst X2.here hx rfl (hb hby d1_58) ?_
        show Steps p.tables e below (T2.setTop (mkF m 59 #[.val (.ref r0), .val (.int p1)] [(.int (1 : Int32))])) _
        refine XS.goto X2.here hx rfl (pc0 := 59) (pc' := 123) rfl (hb hby d1_59) (by decide) (by decide) ?_
        exact k
      obtain ⟨fs, hr, hrun, hended, hW, hsame⟩ := X2.leave (v := some (.int (1 : Int32))) (fun h => by rw [Bd.returns] at h; cases h)
      refine ⟨_, _, ?_, hrun, hended, _, _, rfl, ?_, ⟨_, rfl⟩, hW, hsame.mono (by decide) (by decide)⟩
      · show Steps p.tables e below (T2.setTop (mkF m 123 #[.val (.ref r0), .val (.int p1)] [(.int (1 : Int32))])) _
        exact retN X2 hx (t := .boolean) Bd.returns (by simp) (hb hby d1_123) hr
      · show Q1 Z r0 p1 ko h0 n0 _ _ _
        exact ⟨(by rw [hold, if_pos hc3, if_pos hc4]), N2, e2⟩
    · -- hc4: no
      refine own_go (A' := (T2.setTop (mkF m 62 #[.val (.ref r0), .val (.int p1)] []))) (fun t k => XS.ifYes X2.here hx rfl (pc0 := 55) (pc' := 62) rfl (hb hby d1_55) rfl ((if0 _ _).trans (flt hc4).2.1) (by decide) (by decide) k) ?_
      refine own_go (A' := (T2.setTop (mkF m 123 #[.val (.ref r0), .val (.int p1)] [(.int (0 : Int32))]))) (fun t k => ?_) ?_
      · show Steps p.tables e below (T2.setTop (mkF m 62 #[.val (.ref r0), .val (.int p1)] [])) _
        refine XS.iconst X2.here hx rfl (hb hby d1_62) ?_
        show Steps p.tables e below (T2.setTop (mkF m 63 #[.val (.ref r0), .val (.int p1)] [(.int (0 : Int32))])) _
        refine XS.goto X2.here hx rfl (pc0 := 63) (pc' := 123) rfl (hb hby d1_63) (by decide) (by decide) ?_
        exact k
      obtain ⟨fs, hr, hrun, hended, hW, hsame⟩ := X2.leave (v := some (.int (0 : Int32))) (fun h => by rw [Bd.returns] at h; cases h)
      refine ⟨_, _, ?_, hrun, hended, _, _, rfl, ?_, ⟨_, rfl⟩, hW, hsame.mono (by decide) (by decide)⟩
      · show Steps p.tables e below (T2.setTop (mkF m 123 #[.val (.ref r0), .val (.int p1)] [(.int (0 : Int32))])) _
        exact retN X2 hx (t := .boolean) Bd.returns (by simp) (hb hby d1_123) hr
      · show Q1 Z r0 p1 ko h0 n0 _ _ _
        exact ⟨(by rw [hold, if_pos hc3, if_neg hc4]), N2, e2⟩
  · -- hc3: no
    by_cases hc5 : ko = (1 : Int32)
    · -- hc5: yes
      refine own_go (A' := (T2.setTop (mkF m 66 #[.val (.ref r0), .val (.int p1)] []))) (fun t k => XS.tswIn X2.here hx rfl (o := 62) (pc0 := 4) (pc' := 66) rfl (hb hby d1_4) rfl (by rw [hc5]; decide) (by rw [hc5]; decide) (by decide) (by decide) k) ?_
      refine own_go (A' := (T2.setTop (mkF m 67 #[.val (.ref r0), .val (.int p1)] [(.int p1)]))) (fun t k => ?_) ?_
      · show Steps p.tables e below (T2.setTop (mkF m 66 #[.val (.ref r0), .val (.int p1)] [])) _
        refine XS.iloadN X2.here hx rfl (hb hby d1_66) rfl ?_
        exact k
      by_cases hc6 : (0 : Int32) < p1
      · -- hc6: yes
        refine own_go (A' := (T2.setTop (mkF m 74 #[.val (.ref r0), .val (.int p1)] []))) (fun t k => XS.ifYes X2.here hx rfl (pc0 := 67) (pc' := 74) rfl (hb hby d1_67) rfl ((if0 _ _).trans (tlt hc6).2.2.1) (by decide) (by decide) k) ?_
        refine own_go (A' := (T2.setTop (mkF m 123 #[.val (.ref r0), .val (.int p1)] [(.int (0 : Int32))]))) (fun t k => ?_) ?_
        · show Steps p.tables e below (T2.setTop (mkF m 74 #[.val (.ref r0), .val (.int p1)] [])) _
          refine XS.iconst X2.here hx rfl (hb hby d1_74) ?_
          show Steps p.tables e below (T2.setTop (mkF m 75 #[.val (.ref r0), .val (.int p1)] [(.int (0 : Int32))])) _
          refine XS.goto X2.here hx rfl (pc0 := 75) (pc' := 123) rfl (hb hby d1_75) (by decide) (by decide) ?_
          exact k
        obtain ⟨fs, hr, hrun, hended, hW, hsame⟩ := X2.leave (v := some (.int (0 : Int32))) (fun h => by rw [Bd.returns] at h; cases h)
        refine ⟨_, _, ?_, hrun, hended, _, _, rfl, ?_, ⟨_, rfl⟩, hW, hsame.mono (by decide) (by decide)⟩
        · show Steps p.tables e below (T2.setTop (mkF m 123 #[.val (.ref r0), .val (.int p1)] [(.int (0 : Int32))])) _
          exact retN X2 hx (t := .boolean) Bd.returns (by simp) (hb hby d1_123) hr
        · show Q1 Z r0 p1 ko h0 n0 _ _ _
          exact ⟨(by rw [hold, if_neg hc3, if_pos hc5, if_pos hc6]), N2, e2⟩
      · -- hc6: no
        refine own_go (A' := (T2.setTop (mkF m 70 #[.val (.ref r0), .val (.int p1)] []))) (fun t k => XS.ifNo X2.here hx rfl (hb hby d1_67) rfl ((if0 _ _).trans (flt hc6).2.2.1) k) ?_
        refine own_go (A' := (T2.setTop (mkF m 123 #[.val (.ref r0), .val (.int p1)] [(.int (1 : Int32))]))) (fun t k => ?_) ?_
        · show Steps p.tables e below (T2.setTop (mkF m 70 #[.val (.ref r0), .val (.int p1)] [])) _
          refine XS.iconst X2.here hx rfl (hb hby d1_70) ?_
          show Steps p.tables e below (T2.setTop (mkF m 71 #[.val (.ref r0), .val (.int p1)] [(.int (1 : Int32))])) _
          refine XS.goto X2.here hx rfl (pc0 := 71) (pc' := 123) rfl (hb hby d1_71) (by decide) (by decide) ?_
          exact k
        obtain ⟨fs, hr, hrun, hended, hW, hsame⟩ := X2.leave (v := some (.int (1 : Int32))) (fun h => by rw [Bd.returns] at h; cases h)
        refine ⟨_, _, ?_, hrun, hended, _, _, rfl, ?_, ⟨_, rfl⟩, hW, hsame.mono (by decide) (by decide)⟩
        · show Steps p.tables e below (T2.setTop (mkF m 123 #[.val (.ref r0), .val (.int p1)] [(.int (1 : Int32))])) _
          exact retN X2 hx (t := .boolean) Bd.returns (by simp) (hb hby d1_123) hr
        · show Q1 Z r0 p1 ko h0 n0 _ _ _
          exact ⟨(by rw [hold, if_neg hc3, if_pos hc5, if_neg hc6]), N2, e2⟩
    · -- hc5: no
      by_cases hc7 : ko = (2 : Int32)
      · -- hc7: yes
        refine own_go (A' := (T2.setTop (mkF m 78 #[.val (.ref r0), .val (.int p1)] []))) (fun t k => XS.tswIn X2.here hx rfl (o := 74) (pc0 := 4) (pc' := 78) rfl (hb hby d1_4) rfl (by rw [hc7]; decide) (by rw [hc7]; decide) (by decide) (by decide) k) ?_
        refine own_go (A' := (T2.setTop (mkF m 79 #[.val (.ref r0), .val (.int p1)] [(.int p1)]))) (fun t k => ?_) ?_
        · show Steps p.tables e below (T2.setTop (mkF m 78 #[.val (.ref r0), .val (.int p1)] [])) _
          refine XS.iloadN X2.here hx rfl (hb hby d1_78) rfl ?_
          exact k
        by_cases hc8 : p1 = (0 : Int32)
        · -- hc8: yes
          refine own_go (A' := (T2.setTop (mkF m 82 #[.val (.ref r0), .val (.int p1)] []))) (fun t k => XS.ifNo X2.here hx rfl (hb hby d1_79) rfl ((if0 _ _).trans (teq hc8).2) k) ?_
          refine own_go (A' := (T2.setTop (mkF m 123 #[.val (.ref r0), .val (.int p1)] [(.int (1 : Int32))]))) (fun t k => ?_) ?_
          · show Steps p.tables e below (T2.setTop (mkF m 82 #[.val (.ref r0), .val (.int p1)] [])) _
            refine XS.iconst X2.here hx rfl (hb hby d1_82) ?_
            show Steps p.tables e below (T2.setTop (mkF m 83 #[.val (.ref r0), .val (.int p1)] [(.int (1 : Int32))])) _
            refine XS.goto X2.here hx rfl (pc0 := 83) (pc' := 123) rfl (hb hby d1_83) (by decide) (by decide) ?_
            exact k
          obtain ⟨fs, hr, hrun, hended, hW, hsame⟩ := X2.leave (v := some (.int (1 : Int32))) (fun h => by rw [Bd.returns] at h; cases h)
          refine ⟨_, _, ?_, hrun, hended, _, _, rfl, ?_, ⟨_, rfl⟩, hW, hsame.mono (by decide) (by decide)⟩
          · show Steps p.tables e below (T2.setTop (mkF m 123 #[.val (.ref r0), .val (.int p1)] [(.int (1 : Int32))])) _
            exact retN X2 hx (t := .boolean) Bd.returns (by simp) (hb hby d1_123) hr
          · show Q1 Z r0 p1 ko h0 n0 _ _ _
            exact ⟨(by rw [hold, if_neg hc3, if_neg hc5, if_pos hc7, if_pos hc8]), N2, e2⟩
        · -- hc8: no
          refine own_go (A' := (T2.setTop (mkF m 86 #[.val (.ref r0), .val (.int p1)] []))) (fun t k => XS.ifYes X2.here hx rfl (pc0 := 79) (pc' := 86) rfl (hb hby d1_79) rfl ((if0 _ _).trans (feq hc8).2) (by decide) (by decide) k) ?_
          refine own_go (A' := (T2.setTop (mkF m 123 #[.val (.ref r0), .val (.int p1)] [(.int (0 : Int32))]))) (fun t k => ?_) ?_
          · show Steps p.tables e below (T2.setTop (mkF m 86 #[.val (.ref r0), .val (.int p1)] [])) _
            refine XS.iconst X2.here hx rfl (hb hby d1_86) ?_
            show Steps p.tables e below (T2.setTop (mkF m 87 #[.val (.ref r0), .val (.int p1)] [(.int (0 : Int32))])) _
            refine XS.goto X2.here hx rfl (pc0 := 87) (pc' := 123) rfl (hb hby d1_87) (by decide) (by decide) ?_
            exact k
          obtain ⟨fs, hr, hrun, hended, hW, hsame⟩ := X2.leave (v := some (.int (0 : Int32))) (fun h => by rw [Bd.returns] at h; cases h)
          refine ⟨_, _, ?_, hrun, hended, _, _, rfl, ?_, ⟨_, rfl⟩, hW, hsame.mono (by decide) (by decide)⟩
          · show Steps p.tables e below (T2.setTop (mkF m 123 #[.val (.ref r0), .val (.int p1)] [(.int (0 : Int32))])) _
            exact retN X2 hx (t := .boolean) Bd.returns (by simp) (hb hby d1_123) hr
          · show Q1 Z r0 p1 ko h0 n0 _ _ _
            exact ⟨(by rw [hold, if_neg hc3, if_neg hc5, if_pos hc7, if_neg hc8]), N2, e2⟩
      · -- hc7: no
        by_cases hc9 : ko = (3 : Int32)
        · -- hc9: yes
          refine own_go (A' := (T2.setTop (mkF m 90 #[.val (.ref r0), .val (.int p1)] []))) (fun t k => XS.tswIn X2.here hx rfl (o := 86) (pc0 := 4) (pc' := 90) rfl (hb hby d1_4) rfl (by rw [hc9]; decide) (by rw [hc9]; decide) (by decide) (by decide) k) ?_
          refine own_go (A' := (T2.setTop (mkF m 91 #[.val (.ref r0), .val (.int p1)] [(.int p1)]))) (fun t k => ?_) ?_
          · show Steps p.tables e below (T2.setTop (mkF m 90 #[.val (.ref r0), .val (.int p1)] [])) _
            refine XS.iloadN X2.here hx rfl (hb hby d1_90) rfl ?_
            exact k
          by_cases hc10 : p1 = (0 : Int32)
          · -- hc10: yes
            refine own_go (A' := (T2.setTop (mkF m 98 #[.val (.ref r0), .val (.int p1)] []))) (fun t k => XS.ifYes X2.here hx rfl (pc0 := 91) (pc' := 98) rfl (hb hby d1_91) rfl ((if0 _ _).trans (teq hc10).1) (by decide) (by decide) k) ?_
            refine own_go (A' := (T2.setTop (mkF m 123 #[.val (.ref r0), .val (.int p1)] [(.int (0 : Int32))]))) (fun t k => ?_) ?_
            · show Steps p.tables e below (T2.setTop (mkF m 98 #[.val (.ref r0), .val (.int p1)] [])) _
              refine XS.iconst X2.here hx rfl (hb hby d1_98) ?_
              show Steps p.tables e below (T2.setTop (mkF m 99 #[.val (.ref r0), .val (.int p1)] [(.int (0 : Int32))])) _
              refine XS.goto X2.here hx rfl (pc0 := 99) (pc' := 123) rfl (hb hby d1_99) (by decide) (by decide) ?_
              exact k
            obtain ⟨fs, hr, hrun, hended, hW, hsame⟩ := X2.leave (v := some (.int (0 : Int32))) (fun h => by rw [Bd.returns] at h; cases h)
            refine ⟨_, _, ?_, hrun, hended, _, _, rfl, ?_, ⟨_, rfl⟩, hW, hsame.mono (by decide) (by decide)⟩
            · show Steps p.tables e below (T2.setTop (mkF m 123 #[.val (.ref r0), .val (.int p1)] [(.int (0 : Int32))])) _
              exact retN X2 hx (t := .boolean) Bd.returns (by simp) (hb hby d1_123) hr
            · show Q1 Z r0 p1 ko h0 n0 _ _ _
              exact ⟨(by rw [hold, if_neg hc3, if_neg hc5, if_neg hc7, if_pos hc9, if_pos hc10]), N2, e2⟩
          · -- hc10: no
            refine own_go (A' := (T2.setTop (mkF m 94 #[.val (.ref r0), .val (.int p1)] []))) (fun t k => XS.ifNo X2.here hx rfl (hb hby d1_91) rfl ((if0 _ _).trans (feq hc10).1) k) ?_
            refine own_go (A' := (T2.setTop (mkF m 123 #[.val (.ref r0), .val (.int p1)] [(.int (1 : Int32))]))) (fun t k => ?_) ?_
            · show Steps p.tables e below (T2.setTop (mkF m 94 #[.val (.ref r0), .val (.int p1)] [])) _
              refine XS.iconst X2.here hx rfl (hb hby d1_94) ?_
              show Steps p.tables e below (T2.setTop (mkF m 95 #[.val (.ref r0), .val (.int p1)] [(.int (1 : Int32))])) _
              refine XS.goto X2.here hx rfl (pc0 := 95) (pc' := 123) rfl (hb hby d1_95) (by decide) (by decide) ?_
              exact k
            obtain ⟨fs, hr, hrun, hended, hW, hsame⟩ := X2.leave (v := some (.int (1 : Int32))) (fun h => by rw [Bd.returns] at h; cases h)
            refine ⟨_, _, ?_, hrun, hended, _, _, rfl, ?_, ⟨_, rfl⟩, hW, hsame.mono (by decide) (by decide)⟩
            · show Steps p.tables e below (T2.setTop (mkF m 123 #[.val (.ref r0), .val (.int p1)] [(.int (1 : Int32))])) _
              exact retN X2 hx (t := .boolean) Bd.returns (by simp) (hb hby d1_123) hr
            · show Q1 Z r0 p1 ko h0 n0 _ _ _
              exact ⟨(by rw [hold, if_neg hc3, if_neg hc5, if_neg hc7, if_pos hc9, if_neg hc10]), N2, e2⟩
        · -- hc9: no
          by_cases hc11 : ko = (4 : Int32)
          · -- hc11: yes
            refine own_go (A' := (T2.setTop (mkF m 102 #[.val (.ref r0), .val (.int p1)] []))) (fun t k => XS.tswIn X2.here hx rfl (o := 98) (pc0 := 4) (pc' := 102) rfl (hb hby d1_4) rfl (by rw [hc11]; decide) (by rw [hc11]; decide) (by decide) (by decide) k) ?_
            refine own_go (A' := (T2.setTop (mkF m 103 #[.val (.ref r0), .val (.int p1)] [(.int p1)]))) (fun t k => ?_) ?_
            · show Steps p.tables e below (T2.setTop (mkF m 102 #[.val (.ref r0), .val (.int p1)] [])) _
              refine XS.iloadN X2.here hx rfl (hb hby d1_102) rfl ?_
              exact k
            by_cases hc12 : p1 < (0 : Int32)
            · -- hc12: yes
              refine own_go (A' := (T2.setTop (mkF m 110 #[.val (.ref r0), .val (.int p1)] []))) (fun t k => XS.ifYes X2.here hx rfl (pc0 := 103) (pc' := 110) rfl (hb hby d1_103) rfl ((if0 _ _).trans (tlt hc12).1) (by decide) (by decide) k) ?_
              refine own_go (A' := (T2.setTop (mkF m 123 #[.val (.ref r0), .val (.int p1)] [(.int (0 : Int32))]))) (fun t k => ?_) ?_
              · show Steps p.tables e below (T2.setTop (mkF m 110 #[.val (.ref r0), .val (.int p1)] [])) _
                refine XS.iconst X2.here hx rfl (hb hby d1_110) ?_
                show Steps p.tables e below (T2.setTop (mkF m 111 #[.val (.ref r0), .val (.int p1)] [(.int (0 : Int32))])) _
                refine XS.goto X2.here hx rfl (pc0 := 111) (pc' := 123) rfl (hb hby d1_111) (by decide) (by decide) ?_
                exact k
              obtain ⟨fs, hr, hrun, hended, hW, hsame⟩ := X2.leave (v := some (.int (0 : Int32))) (fun h => by rw [Bd.returns] at h; cases h)
              refine ⟨_, _, ?_, hrun, hended, _, _, rfl, ?_, ⟨_, rfl⟩, hW, hsame.mono (by decide) (by decide)⟩
              · show Steps p.tables e below (T2.setTop (mkF m 123 #[.val (.ref r0), .val (.int p1)] [(.int (0 : Int32))])) _
                exact retN X2 hx (t := .boolean) Bd.returns (by simp) (hb hby d1_123) hr
              · show Q1 Z r0 p1 ko h0 n0 _ _ _
                exact ⟨(by rw [hold, if_neg hc3, if_neg hc5, if_neg hc7, if_neg hc9, if_pos hc11, if_pos hc12]), N2, e2⟩
            · -- hc12: no
              refine own_go (A' := (T2.setTop (mkF m 106 #[.val (.ref r0), .val (.int p1)] []))) (fun t k => XS.ifNo X2.here hx rfl (hb hby d1_103) rfl ((if0 _ _).trans (flt hc12).1) k) ?_
              refine own_go (A' := (T2.setTop (mkF m 123 #[.val (.ref r0), .val (.int p1)] [(.int (1 : Int32))]))) (fun t k => ?_) ?_
              · show Steps p.tables e below (T2.setTop (mkF m 106 #[.val (.ref r0), .val (.int p1)] [])) _
                refine XS.iconst X2.here hx rfl (hb hby d1_106) ?_
                show Steps p.tables e below (T2.setTop (mkF m 107 #[.val (.ref r0), .val (.int p1)] [(.int (1 : Int32))])) _
                refine XS.goto X2.here hx rfl (pc0 := 107) (pc' := 123) rfl (hb hby d1_107) (by decide) (by decide) ?_
                exact k
              obtain ⟨fs, hr, hrun, hended, hW, hsame⟩ := X2.leave (v := some (.int (1 : Int32))) (fun h => by rw [Bd.returns] at h; cases h)
              refine ⟨_, _, ?_, hrun, hended, _, _, rfl, ?_, ⟨_, rfl⟩, hW, hsame.mono (by decide) (by decide)⟩
              · show Steps p.tables e below (T2.setTop (mkF m 123 #[.val (.ref r0), .val (.int p1)] [(.int (1 : Int32))])) _
                exact retN X2 hx (t := .boolean) Bd.returns (by simp) (hb hby d1_123) hr
              · show Q1 Z r0 p1 ko h0 n0 _ _ _
                exact ⟨(by rw [hold, if_neg hc3, if_neg hc5, if_neg hc7, if_neg hc9, if_pos hc11, if_neg hc12]), N2, e2⟩
          · -- hc11: no
            by_cases hc13 : ko = (5 : Int32)
            · -- hc13: yes
              refine own_go (A' := (T2.setTop (mkF m 114 #[.val (.ref r0), .val (.int p1)] []))) (fun t k => XS.tswIn X2.here hx rfl (o := 110) (pc0 := 4) (pc' := 114) rfl (hb hby d1_4) rfl (by rw [hc13]; decide) (by rw [hc13]; decide) (by decide) (by decide) k) ?_
              refine own_go (A' := (T2.setTop (mkF m 115 #[.val (.ref r0), .val (.int p1)] [(.int p1)]))) (fun t k => ?_) ?_
              · show Steps p.tables e below (T2.setTop (mkF m 114 #[.val (.ref r0), .val (.int p1)] [])) _
                refine XS.iloadN X2.here hx rfl (hb hby d1_114) rfl ?_
                exact k
              by_cases hc14 : (0 : Int32) < p1
              · -- hc14: yes
                refine own_go (A' := (T2.setTop (mkF m 118 #[.val (.ref r0), .val (.int p1)] []))) (fun t k => XS.ifNo X2.here hx rfl (hb hby d1_115) rfl ((if0 _ _).trans (tlt hc14).2.2.2) k) ?_
                refine own_go (A' := (T2.setTop (mkF m 123 #[.val (.ref r0), .val (.int p1)] [(.int (1 : Int32))]))) (fun t k => ?_) ?_
                · show Steps p.tables e below (T2.setTop (mkF m 118 #[.val (.ref r0), .val (.int p1)] [])) _
                  refine XS.iconst X2.here hx rfl (hb hby d1_118) ?_
                  show Steps p.tables e below (T2.setTop (mkF m 119 #[.val (.ref r0), .val (.int p1)] [(.int (1 : Int32))])) _
                  refine XS.goto X2.here hx rfl (pc0 := 119) (pc' := 123) rfl (hb hby d1_119) (by decide) (by decide) ?_
                  exact k
                obtain ⟨fs, hr, hrun, hended, hW, hsame⟩ := X2.leave (v := some (.int (1 : Int32))) (fun h => by rw [Bd.returns] at h; cases h)
                refine ⟨_, _, ?_, hrun, hended, _, _, rfl, ?_, ⟨_, rfl⟩, hW, hsame.mono (by decide) (by decide)⟩
                · show Steps p.tables e below (T2.setTop (mkF m 123 #[.val (.ref r0), .val (.int p1)] [(.int (1 : Int32))])) _
                  exact retN X2 hx (t := .boolean) Bd.returns (by simp) (hb hby d1_123) hr
                · show Q1 Z r0 p1 ko h0 n0 _ _ _
                  exact ⟨(by rw [hold, if_neg hc3, if_neg hc5, if_neg hc7, if_neg hc9, if_neg hc11, if_pos hc14]), N2, e2⟩
              · -- hc14: no
                refine own_go (A' := (T2.setTop (mkF m 122 #[.val (.ref r0), .val (.int p1)] []))) (fun t k => XS.ifYes X2.here hx rfl (pc0 := 115) (pc' := 122) rfl (hb hby d1_115) rfl ((if0 _ _).trans (flt hc14).2.2.2) (by decide) (by decide) k) ?_
                refine own_go (A' := (T2.setTop (mkF m 123 #[.val (.ref r0), .val (.int p1)] [(.int (0 : Int32))]))) (fun t k => ?_) ?_
                · show Steps p.tables e below (T2.setTop (mkF m 122 #[.val (.ref r0), .val (.int p1)] [])) _
                  refine XS.iconst X2.here hx rfl (hb hby d1_122) ?_
                  exact k
                obtain ⟨fs, hr, hrun, hended, hW, hsame⟩ := X2.leave (v := some (.int (0 : Int32))) (fun h => by rw [Bd.returns] at h; cases h)
                refine ⟨_, _, ?_, hrun, hended, _, _, rfl, ?_, ⟨_, rfl⟩, hW, hsame.mono (by decide) (by decide)⟩
                · show Steps p.tables e below (T2.setTop (mkF m 123 #[.val (.ref r0), .val (.int p1)] [(.int (0 : Int32))])) _
                  exact retN X2 hx (t := .boolean) Bd.returns (by simp) (hb hby d1_123) hr
                · show Q1 Z r0 p1 ko h0 n0 _ _ _
                  exact ⟨(by rw [hold, if_neg hc3, if_neg hc5, if_neg hc7, if_neg hc9, if_neg hc11, if_neg hc14]), N2, e2⟩
            · -- hc13: no
              exact absurd hko (by simp only [hc3, hc5, hc7, hc9, hc11, hc13, or_self, not_false_eq_true])
theorem pd_1 : parseMethodDescriptor "(I)Z" = some ⟨[.int], some .boolean⟩ := by decide +kernel
theorem pn_0 : plainName "com/example/pathwarden/pathwarden/flow/RelationHoldsPinLaw" = true := by first | (simp [plainName, overriddenIn]; done) | decide +kernel
theorem ef_0 (m : MethodId) (p0 : Int32) (p1 : Int32) : entryFrame m #[(.int p0), (.int p1)] maxLocals = mkF m 0 #[.val (.int p0), .val (.int p1), .unset, .unset, .unset, .unset, .unset] [] := by first | (simp [entryFrame, mkF, argsToLocals, Value.category, maxLocals]; done) | rfl
def Q0 (Z : State) (p0 : Int32) (p1 : Int32) (w_LESS : Addr) (w_EQUAL : Addr) (w_GREATER_OR_EQUAL : Addr) (w_LESS_OR_EQUAL : Addr) (w_GREATER : Addr) (w_NOT_EQUAL : Addr) (h0 : Heap) (n0 : Nat) (v : Option Value) (h : Heap) (L : List Loc) : Prop := v = some (.int (1 : Int32)) ∧ Fr n0 L
set_option maxRecDepth 65536 in
set_option maxHeartbeats 40000000 in
theorem rm0 (l : Launch) (Z : State) (a0 : Array Value) (hw : ∀ d ∈ tables_1, d.before a0 Z = true) (ws : List Jvm.Cond) (p0 : Int32) (p1 : Int32) (w_LESS : Addr) (w_EQUAL : Addr) (w_GREATER_OR_EQUAL : Addr) (w_LESS_OR_EQUAL : Addr) (w_GREATER : Addr) (w_NOT_EQUAL : Addr) (h0 : Heap) (n0 : Nat) (Z0 : n0 ≤ h0.size) (S_LESS : Sta Z h0 "com/example/pathwarden/pathwarden/flow/Relation" "LESS" "Lcom/example/pathwarden/pathwarden/flow/Relation;" (.ref w_LESS)) (S_EQUAL : Sta Z h0 "com/example/pathwarden/pathwarden/flow/Relation" "EQUAL" "Lcom/example/pathwarden/pathwarden/flow/Relation;" (.ref w_EQUAL)) (S_GREATER_OR_EQUAL : Sta Z h0 "com/example/pathwarden/pathwarden/flow/Relation" "GREATER_OR_EQUAL" "Lcom/example/pathwarden/pathwarden/flow/Relation;" (.ref w_GREATER_OR_EQUAL)) (S_LESS_OR_EQUAL : Sta Z h0 "com/example/pathwarden/pathwarden/flow/Relation" "LESS_OR_EQUAL" "Lcom/example/pathwarden/pathwarden/flow/Relation;" (.ref w_LESS_OR_EQUAL)) (S_GREATER : Sta Z h0 "com/example/pathwarden/pathwarden/flow/Relation" "GREATER" "Lcom/example/pathwarden/pathwarden/flow/Relation;" (.ref w_GREATER)) (S_NOT_EQUAL : Sta Z h0 "com/example/pathwarden/pathwarden/flow/Relation" "NOT_EQUAL" "Lcom/example/pathwarden/pathwarden/flow/Relation;" (.ref w_NOT_EQUAL)) (E_LESS : Exa Z h0 w_LESS "com/example/pathwarden/pathwarden/flow/Relation") (E_EQUAL : Exa Z h0 w_EQUAL "com/example/pathwarden/pathwarden/flow/Relation") (E_GREATER_OR_EQUAL : Exa Z h0 w_GREATER_OR_EQUAL "com/example/pathwarden/pathwarden/flow/Relation") (E_LESS_OR_EQUAL : Exa Z h0 w_LESS_OR_EQUAL "com/example/pathwarden/pathwarden/flow/Relation") (E_GREATER : Exa Z h0 w_GREATER "com/example/pathwarden/pathwarden/flow/Relation") (E_NOT_EQUAL : Exa Z h0 w_NOT_EQUAL "com/example/pathwarden/pathwarden/flow/Relation") (O_LESS_ordinal : Fld Z h0 w_LESS "java/lang/Enum" "ordinal" "I" (.int (0 : Int32))) (O_EQUAL_ordinal : Fld Z h0 w_EQUAL "java/lang/Enum" "ordinal" "I" (.int (2 : Int32))) (O_GREATER_OR_EQUAL_ordinal : Fld Z h0 w_GREATER_OR_EQUAL "java/lang/Enum" "ordinal" "I" (.int (4 : Int32))) (O_LESS_OR_EQUAL_ordinal : Fld Z h0 w_LESS_OR_EQUAL "java/lang/Enum" "ordinal" "I" (.int (1 : Int32))) (O_GREATER_ordinal : Fld Z h0 w_GREATER "java/lang/Enum" "ordinal" "I" (.int (5 : Int32))) (O_NOT_EQUAL_ordinal : Fld Z h0 w_NOT_EQUAL "java/lang/Enum" "ordinal" "I" (.int (3 : Int32))) :
    MetFree l x (head1 (Jvm.Cond.code x code maxLocals ret :: ws) room_1) (fun a U => a = #[(.int p0), (.int p1)] ∧ Z.Warmed39 U.vm ∧ U.heap = h0) (fun _ _ _ _ _ => True) (fun _ U o U' => ∃ v L, o = .returned v ∧ Q0 Z p0 p1 w_LESS w_EQUAL w_GREATER_OR_EQUAL w_LESS_OR_EQUAL w_GREATER w_NOT_EQUAL h0 n0 v U'.heap L ∧ FrameEnd U o U' L room_1.cells room_1.slots) := by
  refine MetFree.of_bodySF (plainFor_of_name pn_0) hisR ?_
  intro p e s m args below meth c s₁ Bd hml0 hP hK
  obtain ⟨rfl, hZ, hh⟩ := hP
  have hx := Bd.exec
  have hby := Bd.bytes
  have hml : c.maxLocals = 7 := hml0
  have hown : s.vm.findClass "com/example/pathwarden/pathwarden/flow/RelationHoldsPinLaw" = some m.cls := findClass_of_methodNamed Bd.named
  have hnm := (name_of_methodNamed Bd.named Bd.method).1
  have X0 : Stand p l e room_1 s m #[(.int p0), (.int p1)] below meth c s₁ [] 0 0 := Stand.of_body Bd
  have e0 : s₁.heap = h0 := by rw [← hh, Bd.state]; rfl
  have N0 := Fr.nil n0
  refine own_go (A' := (s₁.setTop (mkF m 0 #[.val (.int p0), .val (.int p1), .unset, .unset, .unset, .unset, .unset] []))) (fun t k => castTop (ef_0 m p0 p1) k) ?_
  refine own_go (A' := (s₁.setTop (mkF m 9 #[.val (.int p0), .val (.int p1), .val (.int ((p0 &&& (2147483647 : Int32)) % (6 : Int32))), .unset, .unset, .unset, .unset] [(.int ((p0 &&& (2147483647 : Int32)) % (6 : Int32)))]))) (fun t k => ?_) ?_
  · show Steps p.tables e below (s₁.setTop (mkF m 0 #[.val (.int p0), .val (.int p1), .unset, .unset, .unset, .unset, .unset] [])) _
    refine XS.iloadN X0.here hx rfl (hb hby at_0) rfl ?_
    show Steps p.tables e below (s₁.setTop (mkF m 1 #[.val (.int p0), .val (.int p1), .unset, .unset, .unset, .unset, .unset] [(.int p0)])) _
    refine X0.ldcInt hx hown (mvT hZ (hw _ (List.mem_of_getElem? (i := 0) rfl))) (g := (mkF m 1 #[.val (.int p0), .val (.int p1), .unset, .unset, .unset, .unset, .unset] [(.int p0)])) rfl (hb hby at_1) _ ?_
    show Steps p.tables e below (s₁.setTop (mkF m 3 #[.val (.int p0), .val (.int p1), .unset, .unset, .unset, .unset, .unset] [(.int (2147483647 : Int32)), (.int p0)])) _
    refine XS.iand X0.here hx rfl (hb hby at_3) rfl ?_
    show Steps p.tables e below (s₁.setTop (mkF m 4 #[.val (.int p0), .val (.int p1), .unset, .unset, .unset, .unset, .unset] [(.int (p0 &&& (2147483647 : Int32)))])) _
    refine XS.bipush X0.here hx rfl (hb hby at_4) ?_
    show Steps p.tables e below (s₁.setTop (mkF m 6 #[.val (.int p0), .val (.int p1), .unset, .unset, .unset, .unset, .unset] [(.int (6 : Int32)), (.int (p0 &&& (2147483647 : Int32)))])) _
    refine iremM X0 hx (g := (mkF m 6 #[.val (.int p0), .val (.int p1), .unset, .unset, .unset, .unset, .unset] [(.int (6 : Int32)), (.int (p0 &&& (2147483647 : Int32)))])) rfl (hb hby at_6) rfl (by decide) ?_
    show Steps p.tables e below (s₁.setTop (mkF m 7 #[.val (.int p0), .val (.int p1), .unset, .unset, .unset, .unset, .unset] [(.int ((p0 &&& (2147483647 : Int32)) % (6 : Int32)))])) _
    refine XS.istoreN X0.here hx rfl (hb hby at_7) rfl (l' := #[.val (.int p0), .val (.int p1), .val (.int ((p0 &&& (2147483647 : Int32)) % (6 : Int32))), .unset, .unset, .unset, .unset]) rfl ?_
    show Steps p.tables e below (s₁.setTop (mkF m 8 #[.val (.int p0), .val (.int p1), .val (.int ((p0 &&& (2147483647 : Int32)) % (6 : Int32))), .unset, .unset, .unset, .unset] [])) _
    refine XS.iloadN X0.here hx rfl (hb hby at_8) rfl ?_
    exact k
  by_cases hc15 : ((p0 &&& (2147483647 : Int32)) % (6 : Int32)) = (0 : Int32)
  · -- hc15: yes
    refine own_go (A' := (s₁.setTop (mkF m 12 #[.val (.int p0), .val (.int p1), .val (.int ((p0 &&& (2147483647 : Int32)) % (6 : Int32))), .unset, .unset, .unset, .unset] []))) (fun t k => XS.ifNo X0.here hx rfl (hb hby at_9) rfl ((if0 _ _).trans (teq hc15).2) k) ?_
    obtain ⟨T16, X16, e16, st16⟩ := getS2 X0 hx hZ hown (host := "") (Or.inl (hw _ (List.mem_of_getElem? (i := 1) rfl))) Via.refl e0 S_LESS (g := (mkF m 12 #[.val (.int p0), .val (.int p1), .val (.int ((p0 &&& (2147483647 : Int32)) % (6 : Int32))), .unset, .unset, .unset, .unset] [])) rfl (hb hby at_12)
    refine own_go (A' := (T16.setTop (mkF m 91 #[.val (.int p0), .val (.int p1), .val (.int ((p0 &&& (2147483647 : Int32)) % (6 : Int32))), .val (.ref w_LESS), .val (.int (1 : Int32)), .unset, .unset] [(.int p1)]))) (fun t k => ?_) ?_
    · show Steps p.tables e below (s₁.setTop (mkF m 12 #[.val (.int p0), .val (.int p1), .val (.int ((p0 &&& (2147483647 : Int32)) % (6 : Int32))), .unset, .unset, .unset, .unset] [])) _
      refine st16 _ ?_
      show Steps p.tables e below (T16.setTop (mkF m 15 #[.val (.int p0), .val (.int p1), .val (.int ((p0 &&& (2147483647 : Int32)) % (6 : Int32))), .unset, .unset, .unset, .unset] [(.ref w_LESS)])) _
      refine XS.astoreN X16.here hx rfl (hb hby at_15) rfl rfl (l' := #[.val (.int p0), .val (.int p1), .val (.int ((p0 &&& (2147483647 : Int32)) % (6 : Int32))), .val (.ref w_LESS), .unset, .unset, .unset]) rfl ?_
      show Steps p.tables e below (T16.setTop (mkF m 16 #[.val (.int p0), .val (.int p1), .val (.int ((p0 &&& (2147483647 : Int32)) % (6 : Int32))), .val (.ref w_LESS), .unset, .unset, .unset] [])) _
      refine XS.iconst X16.here hx rfl (hb hby at_16) ?_
      show Steps p.tables e below (T16.setTop (mkF m 17 #[.val (.int p0), .val (.int p1), .val (.int ((p0 &&& (2147483647 : Int32)) % (6 : Int32))), .val (.ref w_LESS), .unset, .unset, .unset] [(.int (1 : Int32))])) _
      refine XS.istore X16.here hx rfl (hb hby at_17) rfl (l' := #[.val (.int p0), .val (.int p1), .val (.int ((p0 &&& (2147483647 : Int32)) % (6 : Int32))), .val (.ref w_LESS), .val (.int (1 : Int32)), .unset, .unset]) rfl ?_
      show Steps p.tables e below (T16.setTop (mkF m 19 #[.val (.int p0), .val (.int p1), .val (.int ((p0 &&& (2147483647 : Int32)) % (6 : Int32))), .val (.ref w_LESS), .val (.int (1 : Int32)), .unset, .unset] [])) _
      refine XS.goto X16.here hx rfl (pc0 := 19) (pc' := 90) rfl (hb hby at_19) (by decide) (by decide) ?_
      show Steps p.tables e below (T16.setTop (mkF m 90 #[.val (.int p0), .val (.int p1), .val (.int ((p0 &&& (2147483647 : Int32)) % (6 : Int32))), .val (.ref w_LESS), .val (.int (1 : Int32)), .unset, .unset] [])) _
      refine XS.iloadN X16.here hx rfl (hb hby at_90) rfl ?_
      exact k
    by_cases hc17 : p1 < (0 : Int32)
    · -- hc17: yes
      refine own_go (A' := (T16.setTop (mkF m 94 #[.val (.int p0), .val (.int p1), .val (.int ((p0 &&& (2147483647 : Int32)) % (6 : Int32))), .val (.ref w_LESS), .val (.int (1 : Int32)), .unset, .unset] []))) (fun t k => XS.ifNo X16.here hx rfl (hb hby at_91) rfl ((if0 _ _).trans (tlt hc17).2.1) k) ?_
      refine own_go (A' := (T16.setTop (mkF m 118 #[.val (.int p0), .val (.int p1), .val (.int ((p0 &&& (2147483647 : Int32)) % (6 : Int32))), .val (.ref w_LESS), .val (.int (1 : Int32)), .val (.int (1 : Int32)), .unset] [(.int ((1 : Int32) &&& (1 : Int32)))]))) (fun t k => ?_) ?_
      · show Steps p.tables e below (T16.setTop (mkF m 94 #[.val (.int p0), .val (.int p1), .val (.int ((p0 &&& (2147483647 : Int32)) % (6 : Int32))), .val (.ref w_LESS), .val (.int (1 : Int32)), .unset, .unset] [])) _
        refine XS.iconst X16.here hx rfl (hb hby at_94) ?_
        show Steps p.tables e below (T16.setTop (mkF m 95 #[.val (.int p0), .val (.int p1), .val (.int ((p0 &&& (2147483647 : Int32)) % (6 : Int32))), .val (.ref w_LESS), .val (.int (1 : Int32)), .unset, .unset] [(.int (1 : Int32))])) _
        refine XS.istore X16.here hx rfl (hb hby at_95) rfl (l' := #[.val (.int p0), .val (.int p1), .val (.int ((p0 &&& (2147483647 : Int32)) % (6 : Int32))), .val (.ref w_LESS), .val (.int (1 : Int32)), .val (.int (1 : Int32)), .unset]) rfl ?_
        show Steps p.tables e below (T16.setTop (mkF m 97 #[.val (.int p0), .val (.int p1), .val (.int ((p0 &&& (2147483647 : Int32)) % (6 : Int32))), .val (.ref w_LESS), .val (.int (1 : Int32)), .val (.int (1 : Int32)), .unset] [])) _
        refine XS.goto X16.here hx rfl (pc0 := 97) (pc' := 113) rfl (hb hby at_97) (by decide) (by decide) ?_
        show Steps p.tables e below (T16.setTop (mkF m 113 #[.val (.int p0), .val (.int p1), .val (.int ((p0 &&& (2147483647 : Int32)) % (6 : Int32))), .val (.ref w_LESS), .val (.int (1 : Int32)), .val (.int (1 : Int32)), .unset] [])) _
        refine XS.iload X16.here hx rfl (hb hby at_113) rfl ?_
        show Steps p.tables e below (T16.setTop (mkF m 115 #[.val (.int p0), .val (.int p1), .val (.int ((p0 &&& (2147483647 : Int32)) % (6 : Int32))), .val (.ref w_LESS), .val (.int (1 : Int32)), .val (.int (1 : Int32)), .unset] [(.int (1 : Int32))])) _
        refine XS.iload X16.here hx rfl (hb hby at_115) rfl ?_
        show Steps p.tables e below (T16.setTop (mkF m 117 #[.val (.int p0), .val (.int p1), .val (.int ((p0 &&& (2147483647 : Int32)) % (6 : Int32))), .val (.ref w_LESS), .val (.int (1 : Int32)), .val (.int (1 : Int32)), .unset] [(.int (1 : Int32)), (.int (1 : Int32))])) _
        refine XS.iand X16.here hx rfl (hb hby at_117) rfl ?_
        exact k
      refine own_go (A' := (T16.setTop (mkF m 121 #[.val (.int p0), .val (.int p1), .val (.int ((p0 &&& (2147483647 : Int32)) % (6 : Int32))), .val (.ref w_LESS), .val (.int (1 : Int32)), .val (.int (1 : Int32)), .unset] []))) (fun t k => XS.ifNo X16.here hx rfl (hb hby at_118) rfl ((if0 _ _).trans (feq (by decide : ¬ (((1 : Int32) &&& (1 : Int32)) = (0 : Int32)))).1) k) ?_
      obtain ⟨cq18, kq18, q18a, q18b, q18c⟩ := isOf hZ e16 E_LESS
      obtain ⟨_, _, ⟨T18, L18, k18, n18⟩, -, X18, ⟨Lc18, hQ18, l18, y18, z18⟩, st18⟩ := X16.virtualBack hx (y := (⟨"com/example/pathwarden/pathwarden/flow/Relation", "holds", "(I)Z"⟩ : MethodName)) (z := (⟨"com/example/pathwarden/pathwarden/flow/Relation", "holds", "(I)Z"⟩ : MethodName)) hown (mvT hZ (hw _ (List.mem_of_getElem? (i := 4) rfl))) (mvT hZ (hw _ (List.mem_of_getElem? (i := 5) rfl))) (notFace_of_selects (args := #[]) (mvT hZ (hw _ (List.mem_of_getElem? (i := 7) rfl)))) (mvT hZ (hw _ (List.mem_of_getElem? (i := 7) rfl))) (mvT hZ (hw _ (List.mem_of_getElem? (i := 6) rfl))) (by decide) (backOf (W := 0) (rm1 l Z a0 hw [] w_LESS p1 (0 : Int32) h0 n0 Z0 O_LESS_ordinal E_LESS (by decide)) hZ (hw _ (List.mem_of_getElem? (i := 8) rfl)) (hw _ (List.mem_of_getElem? (i := 2) rfl)) (by decide) (by decide)) q18a q18c (g := (mkF m 130 #[.val (.int p0), .val (.int p1), .val (.int ((p0 &&& (2147483647 : Int32)) % (6 : Int32))), .val (.ref w_LESS), .val (.int (1 : Int32)), .val (.int (1 : Int32)), .val (.int (1 : Int32))] [(.int p1), (.ref w_LESS)])) rfl (by rw [hml]; rfl) (Steps.refl _) (argsL := [(.int p1)]) (rest := []) (lenOf pd_1 rfl) rfl (by show 2 * 0 + _ ≤ _; exact Nat.le_of_eq rfl) (hb hby at_130) (fun _ _ => ⟨rfl, e16, (by decide : 0 + 0 ≤ _), (by decide : 0 + 0 ≤ _)⟩)
      dsimp only [Pt.U, Pt.locs, Pt.cells, Pt.slots] at X18 l18 y18 z18 st18 hQ18
      subst l18 y18 z18
      obtain ⟨rfl, N18q, e18⟩ := hQ18
      have N18 := Fr.app N0 N18q
      refine own_go (A' := (T18.setTop (mkF m 135 #[.val (.int p0), .val (.int p1), .val (.int ((p0 &&& (2147483647 : Int32)) % (6 : Int32))), .val (.ref w_LESS), .val (.int (1 : Int32)), .val (.int (1 : Int32)), .val (.int (1 : Int32))] [(.int (1 : Int32)), (.int (hold (0 : Int32) p1))]))) (fun t k => ?_) ?_
      · show Steps p.tables e below (T16.setTop (mkF m 121 #[.val (.int p0), .val (.int p1), .val (.int ((p0 &&& (2147483647 : Int32)) % (6 : Int32))), .val (.ref w_LESS), .val (.int (1 : Int32)), .val (.int (1 : Int32)), .unset] [])) _
        refine XS.iconst X16.here hx rfl (hb hby at_121) ?_
        show Steps p.tables e below (T16.setTop (mkF m 122 #[.val (.int p0), .val (.int p1), .val (.int ((p0 &&& (2147483647 : Int32)) % (6 : Int32))), .val (.ref w_LESS), .val (.int (1 : Int32)), .val (.int (1 : Int32)), .unset] [(.int (1 : Int32))])) _
        refine XS.goto X16.here hx rfl (pc0 := 122) (pc' := 126) rfl (hb hby at_122) (by decide) (by decide) ?_
        show Steps p.tables e below (T16.setTop (mkF m 126 #[.val (.int p0), .val (.int p1), .val (.int ((p0 &&& (2147483647 : Int32)) % (6 : Int32))), .val (.ref w_LESS), .val (.int (1 : Int32)), .val (.int (1 : Int32)), .unset] [(.int (1 : Int32))])) _
        refine XS.istore X16.here hx rfl (hb hby at_126) rfl (l' := #[.val (.int p0), .val (.int p1), .val (.int ((p0 &&& (2147483647 : Int32)) % (6 : Int32))), .val (.ref w_LESS), .val (.int (1 : Int32)), .val (.int (1 : Int32)), .val (.int (1 : Int32))]) rfl ?_
        show Steps p.tables e below (T16.setTop (mkF m 128 #[.val (.int p0), .val (.int p1), .val (.int ((p0 &&& (2147483647 : Int32)) % (6 : Int32))), .val (.ref w_LESS), .val (.int (1 : Int32)), .val (.int (1 : Int32)), .val (.int (1 : Int32))] [])) _
        refine XS.aloadN X16.here hx rfl (hb hby at_128) rfl rfl ?_
        show Steps p.tables e below (T16.setTop (mkF m 129 #[.val (.int p0), .val (.int p1), .val (.int ((p0 &&& (2147483647 : Int32)) % (6 : Int32))), .val (.ref w_LESS), .val (.int (1 : Int32)), .val (.int (1 : Int32)), .val (.int (1 : Int32))] [(.ref w_LESS)])) _
        refine XS.iloadN X16.here hx rfl (hb hby at_129) rfl ?_
        show Steps p.tables e below (T16.setTop (mkF m 130 #[.val (.int p0), .val (.int p1), .val (.int ((p0 &&& (2147483647 : Int32)) % (6 : Int32))), .val (.ref w_LESS), .val (.int (1 : Int32)), .val (.int (1 : Int32)), .val (.int (1 : Int32))] [(.int p1), (.ref w_LESS)])) _
        refine st18.trans ?_
        show Steps p.tables e below (T18.setTop (mkF m 133 #[.val (.int p0), .val (.int p1), .val (.int ((p0 &&& (2147483647 : Int32)) % (6 : Int32))), .val (.ref w_LESS), .val (.int (1 : Int32)), .val (.int (1 : Int32)), .val (.int (1 : Int32))] [(.int (hold (0 : Int32) p1))])) _
        refine XS.iload X18.here hx rfl (hb hby at_133) rfl ?_
        exact k
      refine own_go (A' := (T18.setTop (mkF m 138 #[.val (.int p0), .val (.int p1), .val (.int ((p0 &&& (2147483647 : Int32)) % (6 : Int32))), .val (.ref w_LESS), .val (.int (1 : Int32)), .val (.int (1 : Int32)), .val (.int (1 : Int32))] []))) (fun t k => XS.icmpNo X18.here hx rfl (hb hby at_135) rfl (teq (by simp [hold, hc17, (own_hA hc17).1, (own_hA hc17).2])).2 k) ?_
      refine own_go (A' := (T18.setTop (mkF m 143 #[.val (.int p0), .val (.int p1), .val (.int ((p0 &&& (2147483647 : Int32)) % (6 : Int32))), .val (.ref w_LESS), .val (.int (1 : Int32)), .val (.int (1 : Int32)), .val (.int (1 : Int32))] [(.int (1 : Int32))]))) (fun t k => ?_) ?_
      · show Steps p.tables e below (T18.setTop (mkF m 138 #[.val (.int p0), .val (.int p1), .val (.int ((p0 &&& (2147483647 : Int32)) % (6 : Int32))), .val (.ref w_LESS), .val (.int (1 : Int32)), .val (.int (1 : Int32)), .val (.int (1 : Int32))] [])) _
        refine XS.iconst X18.here hx rfl (hb hby at_138) ?_
        show Steps p.tables e below (T18.setTop (mkF m 139 #[.val (.int p0), .val (.int p1), .val (.int ((p0 &&& (2147483647 : Int32)) % (6 : Int32))), .val (.ref w_LESS), .val (.int (1 : Int32)), .val (.int (1 : Int32)), .val (.int (1 : Int32))] [(.int (1 : Int32))])) _
        refine XS.goto X18.here hx rfl (pc0 := 139) (pc' := 143) rfl (hb hby at_139) (by decide) (by decide) ?_
        exact k
      obtain ⟨fs, hr, hrun, hended, hW, hsame⟩ := X18.leave (v := some (.int (1 : Int32))) (fun h => by rw [Bd.returns] at h; cases h)
      refine ⟨_, _, ?_, hrun, hended, _, _, rfl, ?_, ⟨_, rfl⟩, hW, hsame.mono (by decide) (by decide)⟩
      · show Steps p.tables e below (T18.setTop (mkF m 143 #[.val (.int p0), .val (.int p1), .val (.int ((p0 &&& (2147483647 : Int32)) % (6 : Int32))), .val (.ref w_LESS), .val (.int (1 : Int32)), .val (.int (1 : Int32)), .val (.int (1 : Int32))] [(.int (1 : Int32))])) _
        exact retN X18 hx (t := .boolean) Bd.returns (by simp) (hb hby at_143) hr
      · show Q0 Z p0 p1 w_LESS w_EQUAL w_GREATER_OR_EQUAL w_LESS_OR_EQUAL w_GREATER w_NOT_EQUAL h0 n0 _ _ _
        exact ⟨rfl, N18⟩
    · -- hc17: no
      refine own_go (A' := (T16.setTop (mkF m 100 #[.val (.int p0), .val (.int p1), .val (.int ((p0 &&& (2147483647 : Int32)) % (6 : Int32))), .val (.ref w_LESS), .val (.int (1 : Int32)), .unset, .unset] []))) (fun t k => XS.ifYes X16.here hx rfl (pc0 := 91) (pc' := 100) rfl (hb hby at_91) rfl ((if0 _ _).trans (flt hc17).2.1) (by decide) (by decide) k) ?_
      refine own_go (A' := (T16.setTop (mkF m 101 #[.val (.int p0), .val (.int p1), .val (.int ((p0 &&& (2147483647 : Int32)) % (6 : Int32))), .val (.ref w_LESS), .val (.int (1 : Int32)), .unset, .unset] [(.int p1)]))) (fun t k => ?_) ?_
      · show Steps p.tables e below (T16.setTop (mkF m 100 #[.val (.int p0), .val (.int p1), .val (.int ((p0 &&& (2147483647 : Int32)) % (6 : Int32))), .val (.ref w_LESS), .val (.int (1 : Int32)), .unset, .unset] [])) _
        refine XS.iloadN X16.here hx rfl (hb hby at_100) rfl ?_
        exact k
      by_cases hc19 : p1 = (0 : Int32)
      · -- hc19: yes
        refine own_go (A' := (T16.setTop (mkF m 104 #[.val (.int p0), .val (.int p1), .val (.int ((p0 &&& (2147483647 : Int32)) % (6 : Int32))), .val (.ref w_LESS), .val (.int (1 : Int32)), .unset, .unset] []))) (fun t k => XS.ifNo X16.here hx rfl (hb hby at_101) rfl ((if0 _ _).trans (teq hc19).2) k) ?_
        refine own_go (A' := (T16.setTop (mkF m 118 #[.val (.int p0), .val (.int p1), .val (.int ((p0 &&& (2147483647 : Int32)) % (6 : Int32))), .val (.ref w_LESS), .val (.int (1 : Int32)), .val (.int (2 : Int32)), .unset] [(.int ((1 : Int32) &&& (2 : Int32)))]))) (fun t k => ?_) ?_
        · show Steps p.tables e below (T16.setTop (mkF m 104 #[.val (.int p0), .val (.int p1), .val (.int ((p0 &&& (2147483647 : Int32)) % (6 : Int32))), .val (.ref w_LESS), .val (.int (1 : Int32)), .unset, .unset] [])) _
          refine XS.iconst X16.here hx rfl (hb hby at_104) ?_
          show Steps p.tables e below (T16.setTop (mkF m 105 #[.val (.int p0), .val (.int p1), .val (.int ((p0 &&& (2147483647 : Int32)) % (6 : Int32))), .val (.ref w_LESS), .val (.int (1 : Int32)), .unset, .unset] [(.int (2 : Int32))])) _
          refine XS.istore X16.here hx rfl (hb hby at_105) rfl (l' := #[.val (.int p0), .val (.int p1), .val (.int ((p0 &&& (2147483647 : Int32)) % (6 : Int32))), .val (.ref w_LESS), .val (.int (1 : Int32)), .val (.int (2 : Int32)), .unset]) rfl ?_
          show Steps p.tables e below (T16.setTop (mkF m 107 #[.val (.int p0), .val (.int p1), .val (.int ((p0 &&& (2147483647 : Int32)) % (6 : Int32))), .val (.ref w_LESS), .val (.int (1 : Int32)), .val (.int (2 : Int32)), .unset] [])) _
          refine XS.goto X16.here hx rfl (pc0 := 107) (pc' := 113) rfl (hb hby at_107) (by decide) (by decide) ?_
          show Steps p.tables e below (T16.setTop (mkF m 113 #[.val (.int p0), .val (.int p1), .val (.int ((p0 &&& (2147483647 : Int32)) % (6 : Int32))), .val (.ref w_LESS), .val (.int (1 : Int32)), .val (.int (2 : Int32)), .unset] [])) _
          refine XS.iload X16.here hx rfl (hb hby at_113) rfl ?_
          show Steps p.tables e below (T16.setTop (mkF m 115 #[.val (.int p0), .val (.int p1), .val (.int ((p0 &&& (2147483647 : Int32)) % (6 : Int32))), .val (.ref w_LESS), .val (.int (1 : Int32)), .val (.int (2 : Int32)), .unset] [(.int (1 : Int32))])) _
          refine XS.iload X16.here hx rfl (hb hby at_115) rfl ?_
          show Steps p.tables e below (T16.setTop (mkF m 117 #[.val (.int p0), .val (.int p1), .val (.int ((p0 &&& (2147483647 : Int32)) % (6 : Int32))), .val (.ref w_LESS), .val (.int (1 : Int32)), .val (.int (2 : Int32)), .unset] [(.int (2 : Int32)), (.int (1 : Int32))])) _
          refine XS.iand X16.here hx rfl (hb hby at_117) rfl ?_
          exact k
        refine own_go (A' := (T16.setTop (mkF m 125 #[.val (.int p0), .val (.int p1), .val (.int ((p0 &&& (2147483647 : Int32)) % (6 : Int32))), .val (.ref w_LESS), .val (.int (1 : Int32)), .val (.int (2 : Int32)), .unset] []))) (fun t k => XS.ifYes X16.here hx rfl (pc0 := 118) (pc' := 125) rfl (hb hby at_118) rfl ((if0 _ _).trans (teq (by decide : ((1 : Int32) &&& (2 : Int32)) = (0 : Int32))).1) (by decide) (by decide) k) ?_
        obtain ⟨cq20, kq20, q20a, q20b, q20c⟩ := isOf hZ e16 E_LESS
        obtain ⟨_, _, ⟨T20, L20, k20, n20⟩, -, X20, ⟨Lc20, hQ20, l20, y20, z20⟩, st20⟩ := X16.virtualBack hx (y := (⟨"com/example/pathwarden/pathwarden/flow/Relation", "holds", "(I)Z"⟩ : MethodName)) (z := (⟨"com/example/pathwarden/pathwarden/flow/Relation", "holds", "(I)Z"⟩ : MethodName)) hown (mvT hZ (hw _ (List.mem_of_getElem? (i := 4) rfl))) (mvT hZ (hw _ (List.mem_of_getElem? (i := 5) rfl))) (notFace_of_selects (args := #[]) (mvT hZ (hw _ (List.mem_of_getElem? (i := 7) rfl)))) (mvT hZ (hw _ (List.mem_of_getElem? (i := 7) rfl))) (mvT hZ (hw _ (List.mem_of_getElem? (i := 6) rfl))) (by decide) (backOf (W := 0) (rm1 l Z a0 hw [] w_LESS p1 (0 : Int32) h0 n0 Z0 O_LESS_ordinal E_LESS (by decide)) hZ (hw _ (List.mem_of_getElem? (i := 8) rfl)) (hw _ (List.mem_of_getElem? (i := 2) rfl)) (by decide) (by decide)) q20a q20c (g := (mkF m 130 #[.val (.int p0), .val (.int p1), .val (.int ((p0 &&& (2147483647 : Int32)) % (6 : Int32))), .val (.ref w_LESS), .val (.int (1 : Int32)), .val (.int (2 : Int32)), .val (.int (0 : Int32))] [(.int p1), (.ref w_LESS)])) rfl (by rw [hml]; rfl) (Steps.refl _) (argsL := [(.int p1)]) (rest := []) (lenOf pd_1 rfl) rfl (by show 2 * 0 + _ ≤ _; exact Nat.le_of_eq rfl) (hb hby at_130) (fun _ _ => ⟨rfl, e16, (by decide : 0 + 0 ≤ _), (by decide : 0 + 0 ≤ _)⟩)
        dsimp only [Pt.U, Pt.locs, Pt.cells, Pt.slots] at X20 l20 y20 z20 st20 hQ20
        subst l20 y20 z20
        obtain ⟨rfl, N20q, e20⟩ := hQ20
        have N20 := Fr.app N0 N20q
        refine own_go (A' := (T20.setTop (mkF m 135 #[.val (.int p0), .val (.int p1), .val (.int ((p0 &&& (2147483647 : Int32)) % (6 : Int32))), .val (.ref w_LESS), .val (.int (1 : Int32)), .val (.int (2 : Int32)), .val (.int (0 : Int32))] [(.int (0 : Int32)), (.int (hold (0 : Int32) p1))]))) (fun t k => ?_) ?_
        · show Steps p.tables e below (T16.setTop (mkF m 125 #[.val (.int p0), .val (.int p1), .val (.int ((p0 &&& (2147483647 : Int32)) % (6 : Int32))), .val (.ref w_LESS), .val (.int (1 : Int32)), .val (.int (2 : Int32)), .unset] [])) _
          refine XS.iconst X16.here hx rfl (hb hby at_125) ?_
          show Steps p.tables e below (T16.setTop (mkF m 126 #[.val (.int p0), .val (.int p1), .val (.int ((p0 &&& (2147483647 : Int32)) % (6 : Int32))), .val (.ref w_LESS), .val (.int (1 : Int32)), .val (.int (2 : Int32)), .unset] [(.int (0 : Int32))])) _
          refine XS.istore X16.here hx rfl (hb hby at_126) rfl (l' := #[.val (.int p0), .val (.int p1), .val (.int ((p0 &&& (2147483647 : Int32)) % (6 : Int32))), .val (.ref w_LESS), .val (.int (1 : Int32)), .val (.int (2 : Int32)), .val (.int (0 : Int32))]) rfl ?_
          show Steps p.tables e below (T16.setTop (mkF m 128 #[.val (.int p0), .val (.int p1), .val (.int ((p0 &&& (2147483647 : Int32)) % (6 : Int32))), .val (.ref w_LESS), .val (.int (1 : Int32)), .val (.int (2 : Int32)), .val (.int (0 : Int32))] [])) _
          refine XS.aloadN X16.here hx rfl (hb hby at_128) rfl rfl ?_
          show Steps p.tables e below (T16.setTop (mkF m 129 #[.val (.int p0), .val (.int p1), .val (.int ((p0 &&& (2147483647 : Int32)) % (6 : Int32))), .val (.ref w_LESS), .val (.int (1 : Int32)), .val (.int (2 : Int32)), .val (.int (0 : Int32))] [(.ref w_LESS)])) _
          refine XS.iloadN X16.here hx rfl (hb hby at_129) rfl ?_
          show Steps p.tables e below (T16.setTop (mkF m 130 #[.val (.int p0), .val (.int p1), .val (.int ((p0 &&& (2147483647 : Int32)) % (6 : Int32))), .val (.ref w_LESS), .val (.int (1 : Int32)), .val (.int (2 : Int32)), .val (.int (0 : Int32))] [(.int p1), (.ref w_LESS)])) _
          refine st20.trans ?_
          show Steps p.tables e below (T20.setTop (mkF m 133 #[.val (.int p0), .val (.int p1), .val (.int ((p0 &&& (2147483647 : Int32)) % (6 : Int32))), .val (.ref w_LESS), .val (.int (1 : Int32)), .val (.int (2 : Int32)), .val (.int (0 : Int32))] [(.int (hold (0 : Int32) p1))])) _
          refine XS.iload X20.here hx rfl (hb hby at_133) rfl ?_
          exact k
        refine own_go (A' := (T20.setTop (mkF m 138 #[.val (.int p0), .val (.int p1), .val (.int ((p0 &&& (2147483647 : Int32)) % (6 : Int32))), .val (.ref w_LESS), .val (.int (1 : Int32)), .val (.int (2 : Int32)), .val (.int (0 : Int32))] []))) (fun t k => XS.icmpNo X20.here hx rfl (hb hby at_135) rfl (teq (by simp [hold, hc19])).2 k) ?_
        refine own_go (A' := (T20.setTop (mkF m 143 #[.val (.int p0), .val (.int p1), .val (.int ((p0 &&& (2147483647 : Int32)) % (6 : Int32))), .val (.ref w_LESS), .val (.int (1 : Int32)), .val (.int (2 : Int32)), .val (.int (0 : Int32))] [(.int (1 : Int32))]))) (fun t k => ?_) ?_
        · show Steps p.tables e below (T20.setTop (mkF m 138 #[.val (.int p0), .val (.int p1), .val (.int ((p0 &&& (2147483647 : Int32)) % (6 : Int32))), .val (.ref w_LESS), .val (.int (1 : Int32)), .val (.int (2 : Int32)), .val (.int (0 : Int32))] [])) _
          refine XS.iconst X20.here hx rfl (hb hby at_138) ?_
          show Steps p.tables e below (T20.setTop (mkF m 139 #[.val (.int p0), .val (.int p1), .val (.int ((p0 &&& (2147483647 : Int32)) % (6 : Int32))), .val (.ref w_LESS), .val (.int (1 : Int32)), .val (.int (2 : Int32)), .val (.int (0 : Int32))] [(.int (1 : Int32))])) _
          refine XS.goto X20.here hx rfl (pc0 := 139) (pc' := 143) rfl (hb hby at_139) (by decide) (by decide) ?_
          exact k
        obtain ⟨fs, hr, hrun, hended, hW, hsame⟩ := X20.leave (v := some (.int (1 : Int32))) (fun h => by rw [Bd.returns] at h; cases h)
        refine ⟨_, _, ?_, hrun, hended, _, _, rfl, ?_, ⟨_, rfl⟩, hW, hsame.mono (by decide) (by decide)⟩
        · show Steps p.tables e below (T20.setTop (mkF m 143 #[.val (.int p0), .val (.int p1), .val (.int ((p0 &&& (2147483647 : Int32)) % (6 : Int32))), .val (.ref w_LESS), .val (.int (1 : Int32)), .val (.int (2 : Int32)), .val (.int (0 : Int32))] [(.int (1 : Int32))])) _
          exact retN X20 hx (t := .boolean) Bd.returns (by simp) (hb hby at_143) hr
        · show Q0 Z p0 p1 w_LESS w_EQUAL w_GREATER_OR_EQUAL w_LESS_OR_EQUAL w_GREATER w_NOT_EQUAL h0 n0 _ _ _
          exact ⟨rfl, N20⟩
      · -- hc19: no
        refine own_go (A' := (T16.setTop (mkF m 110 #[.val (.int p0), .val (.int p1), .val (.int ((p0 &&& (2147483647 : Int32)) % (6 : Int32))), .val (.ref w_LESS), .val (.int (1 : Int32)), .unset, .unset] []))) (fun t k => XS.ifYes X16.here hx rfl (pc0 := 101) (pc' := 110) rfl (hb hby at_101) rfl ((if0 _ _).trans (feq hc19).2) (by decide) (by decide) k) ?_
        refine own_go (A' := (T16.setTop (mkF m 118 #[.val (.int p0), .val (.int p1), .val (.int ((p0 &&& (2147483647 : Int32)) % (6 : Int32))), .val (.ref w_LESS), .val (.int (1 : Int32)), .val (.int (4 : Int32)), .unset] [(.int ((1 : Int32) &&& (4 : Int32)))]))) (fun t k => ?_) ?_
        · show Steps p.tables e below (T16.setTop (mkF m 110 #[.val (.int p0), .val (.int p1), .val (.int ((p0 &&& (2147483647 : Int32)) % (6 : Int32))), .val (.ref w_LESS), .val (.int (1 : Int32)), .unset, .unset] [])) _
          refine XS.iconst X16.here hx rfl (hb hby at_110) ?_
          show Steps p.tables e below (T16.setTop (mkF m 111 #[.val (.int p0), .val (.int p1), .val (.int ((p0 &&& (2147483647 : Int32)) % (6 : Int32))), .val (.ref w_LESS), .val (.int (1 : Int32)), .unset, .unset] [(.int (4 : Int32))])) _
          refine XS.istore X16.here hx rfl (hb hby at_111) rfl (l' := #[.val (.int p0), .val (.int p1), .val (.int ((p0 &&& (2147483647 : Int32)) % (6 : Int32))), .val (.ref w_LESS), .val (.int (1 : Int32)), .val (.int (4 : Int32)), .unset]) rfl ?_
          show Steps p.tables e below (T16.setTop (mkF m 113 #[.val (.int p0), .val (.int p1), .val (.int ((p0 &&& (2147483647 : Int32)) % (6 : Int32))), .val (.ref w_LESS), .val (.int (1 : Int32)), .val (.int (4 : Int32)), .unset] [])) _
          refine XS.iload X16.here hx rfl (hb hby at_113) rfl ?_
          show Steps p.tables e below (T16.setTop (mkF m 115 #[.val (.int p0), .val (.int p1), .val (.int ((p0 &&& (2147483647 : Int32)) % (6 : Int32))), .val (.ref w_LESS), .val (.int (1 : Int32)), .val (.int (4 : Int32)), .unset] [(.int (1 : Int32))])) _
          refine XS.iload X16.here hx rfl (hb hby at_115) rfl ?_
          show Steps p.tables e below (T16.setTop (mkF m 117 #[.val (.int p0), .val (.int p1), .val (.int ((p0 &&& (2147483647 : Int32)) % (6 : Int32))), .val (.ref w_LESS), .val (.int (1 : Int32)), .val (.int (4 : Int32)), .unset] [(.int (4 : Int32)), (.int (1 : Int32))])) _
          refine XS.iand X16.here hx rfl (hb hby at_117) rfl ?_
          exact k
        refine own_go (A' := (T16.setTop (mkF m 125 #[.val (.int p0), .val (.int p1), .val (.int ((p0 &&& (2147483647 : Int32)) % (6 : Int32))), .val (.ref w_LESS), .val (.int (1 : Int32)), .val (.int (4 : Int32)), .unset] []))) (fun t k => XS.ifYes X16.here hx rfl (pc0 := 118) (pc' := 125) rfl (hb hby at_118) rfl ((if0 _ _).trans (teq (by decide : ((1 : Int32) &&& (4 : Int32)) = (0 : Int32))).1) (by decide) (by decide) k) ?_
        obtain ⟨cq21, kq21, q21a, q21b, q21c⟩ := isOf hZ e16 E_LESS
        obtain ⟨_, _, ⟨T21, L21, k21, n21⟩, -, X21, ⟨Lc21, hQ21, l21, y21, z21⟩, st21⟩ := X16.virtualBack hx (y := (⟨"com/example/pathwarden/pathwarden/flow/Relation", "holds", "(I)Z"⟩ : MethodName)) (z := (⟨"com/example/pathwarden/pathwarden/flow/Relation", "holds", "(I)Z"⟩ : MethodName)) hown (mvT hZ (hw _ (List.mem_of_getElem? (i := 4) rfl))) (mvT hZ (hw _ (List.mem_of_getElem? (i := 5) rfl))) (notFace_of_selects (args := #[]) (mvT hZ (hw _ (List.mem_of_getElem? (i := 7) rfl)))) (mvT hZ (hw _ (List.mem_of_getElem? (i := 7) rfl))) (mvT hZ (hw _ (List.mem_of_getElem? (i := 6) rfl))) (by decide) (backOf (W := 0) (rm1 l Z a0 hw [] w_LESS p1 (0 : Int32) h0 n0 Z0 O_LESS_ordinal E_LESS (by decide)) hZ (hw _ (List.mem_of_getElem? (i := 8) rfl)) (hw _ (List.mem_of_getElem? (i := 2) rfl)) (by decide) (by decide)) q21a q21c (g := (mkF m 130 #[.val (.int p0), .val (.int p1), .val (.int ((p0 &&& (2147483647 : Int32)) % (6 : Int32))), .val (.ref w_LESS), .val (.int (1 : Int32)), .val (.int (4 : Int32)), .val (.int (0 : Int32))] [(.int p1), (.ref w_LESS)])) rfl (by rw [hml]; rfl) (Steps.refl _) (argsL := [(.int p1)]) (rest := []) (lenOf pd_1 rfl) rfl (by show 2 * 0 + _ ≤ _; exact Nat.le_of_eq rfl) (hb hby at_130) (fun _ _ => ⟨rfl, e16, (by decide : 0 + 0 ≤ _), (by decide : 0 + 0 ≤ _)⟩)
        dsimp only [Pt.U, Pt.locs, Pt.cells, Pt.slots] at X21 l21 y21 z21 st21 hQ21
        subst l21 y21 z21
        obtain ⟨rfl, N21q, e21⟩ := hQ21
        have N21 := Fr.app N0 N21q
        refine own_go (A' := (T21.setTop (mkF m 135 #[.val (.int p0), .val (.int p1), .val (.int ((p0 &&& (2147483647 : Int32)) % (6 : Int32))), .val (.ref w_LESS), .val (.int (1 : Int32)), .val (.int (4 : Int32)), .val (.int (0 : Int32))] [(.int (0 : Int32)), (.int (hold (0 : Int32) p1))]))) (fun t k => ?_) ?_
        · show Steps p.tables e below (T16.setTop (mkF m 125 #[.val (.int p0), .val (.int p1), .val (.int ((p0 &&& (2147483647 : Int32)) % (6 : Int32))), .val (.ref w_LESS), .val (.int (1 : Int32)), .val (.int (4 : Int32)), .unset] [])) _
          refine XS.iconst X16.here hx rfl (hb hby at_125) ?_
          show Steps p.tables e below (T16.setTop (mkF m 126 #[.val (.int p0), .val (.int p1), .val (.int ((p0 &&& (2147483647 : Int32)) % (6 : Int32))), .val (.ref w_LESS), .val (.int (1 : Int32)), .val (.int (4 : Int32)), .unset] [(.int (0 : Int32))])) _
          refine XS.istore X16.here hx rfl (hb hby at_126) rfl (l' := #[.val (.int p0), .val (.int p1), .val (.int ((p0 &&& (2147483647 : Int32)) % (6 : Int32))), .val (.ref w_LESS), .val (.int (1 : Int32)), .val (.int (4 : Int32)), .val (.int (0 : Int32))]) rfl ?_
          show Steps p.tables e below (T16.setTop (mkF m 128 #[.val (.int p0), .val (.int p1), .val (.int ((p0 &&& (2147483647 : Int32)) % (6 : Int32))), .val (.ref w_LESS), .val (.int (1 : Int32)), .val (.int (4 : Int32)), .val (.int (0 : Int32))] [])) _
          refine XS.aloadN X16.here hx rfl (hb hby at_128) rfl rfl ?_
          show Steps p.tables e below (T16.setTop (mkF m 129 #[.val (.int p0), .val (.int p1), .val (.int ((p0 &&& (2147483647 : Int32)) % (6 : Int32))), .val (.ref w_LESS), .val (.int (1 : Int32)), .val (.int (4 : Int32)), .val (.int (0 : Int32))] [(.ref w_LESS)])) _
          refine XS.iloadN X16.here hx rfl (hb hby at_129) rfl ?_
          show Steps p.tables e below (T16.setTop (mkF m 130 #[.val (.int p0), .val (.int p1), .val (.int ((p0 &&& (2147483647 : Int32)) % (6 : Int32))), .val (.ref w_LESS), .val (.int (1 : Int32)), .val (.int (4 : Int32)), .val (.int (0 : Int32))] [(.int p1), (.ref w_LESS)])) _
          refine st21.trans ?_
          show Steps p.tables e below (T21.setTop (mkF m 133 #[.val (.int p0), .val (.int p1), .val (.int ((p0 &&& (2147483647 : Int32)) % (6 : Int32))), .val (.ref w_LESS), .val (.int (1 : Int32)), .val (.int (4 : Int32)), .val (.int (0 : Int32))] [(.int (hold (0 : Int32) p1))])) _
          refine XS.iload X21.here hx rfl (hb hby at_133) rfl ?_
          exact k
        refine own_go (A' := (T21.setTop (mkF m 138 #[.val (.int p0), .val (.int p1), .val (.int ((p0 &&& (2147483647 : Int32)) % (6 : Int32))), .val (.ref w_LESS), .val (.int (1 : Int32)), .val (.int (4 : Int32)), .val (.int (0 : Int32))] []))) (fun t k => XS.icmpNo X21.here hx rfl (hb hby at_135) rfl (teq (by simp [hold, hc17, hc19, own_hC hc17 hc19])).2 k) ?_
        refine own_go (A' := (T21.setTop (mkF m 143 #[.val (.int p0), .val (.int p1), .val (.int ((p0 &&& (2147483647 : Int32)) % (6 : Int32))), .val (.ref w_LESS), .val (.int (1 : Int32)), .val (.int (4 : Int32)), .val (.int (0 : Int32))] [(.int (1 : Int32))]))) (fun t k => ?_) ?_
        · show Steps p.tables e below (T21.setTop (mkF m 138 #[.val (.int p0), .val (.int p1), .val (.int ((p0 &&& (2147483647 : Int32)) % (6 : Int32))), .val (.ref w_LESS), .val (.int (1 : Int32)), .val (.int (4 : Int32)), .val (.int (0 : Int32))] [])) _
          refine XS.iconst X21.here hx rfl (hb hby at_138) ?_
          show Steps p.tables e below (T21.setTop (mkF m 139 #[.val (.int p0), .val (.int p1), .val (.int ((p0 &&& (2147483647 : Int32)) % (6 : Int32))), .val (.ref w_LESS), .val (.int (1 : Int32)), .val (.int (4 : Int32)), .val (.int (0 : Int32))] [(.int (1 : Int32))])) _
          refine XS.goto X21.here hx rfl (pc0 := 139) (pc' := 143) rfl (hb hby at_139) (by decide) (by decide) ?_
          exact k
        obtain ⟨fs, hr, hrun, hended, hW, hsame⟩ := X21.leave (v := some (.int (1 : Int32))) (fun h => by rw [Bd.returns] at h; cases h)
        refine ⟨_, _, ?_, hrun, hended, _, _, rfl, ?_, ⟨_, rfl⟩, hW, hsame.mono (by decide) (by decide)⟩
        · show Steps p.tables e below (T21.setTop (mkF m 143 #[.val (.int p0), .val (.int p1), .val (.int ((p0 &&& (2147483647 : Int32)) % (6 : Int32))), .val (.ref w_LESS), .val (.int (1 : Int32)), .val (.int (4 : Int32)), .val (.int (0 : Int32))] [(.int (1 : Int32))])) _
          exact retN X21 hx (t := .boolean) Bd.returns (by simp) (hb hby at_143) hr
        · show Q0 Z p0 p1 w_LESS w_EQUAL w_GREATER_OR_EQUAL w_LESS_OR_EQUAL w_GREATER w_NOT_EQUAL h0 n0 _ _ _
          exact ⟨rfl, N21⟩
  · -- hc15: no
    refine own_go (A' := (s₁.setTop (mkF m 22 #[.val (.int p0), .val (.int p1), .val (.int ((p0 &&& (2147483647 : Int32)) % (6 : Int32))), .unset, .unset, .unset, .unset] []))) (fun t k => XS.ifYes X0.here hx rfl (pc0 := 9) (pc' := 22) rfl (hb hby at_9) rfl ((if0 _ _).trans (feq hc15).2) (by decide) (by decide) k) ?_
    refine own_go (A' := (s₁.setTop (mkF m 24 #[.val (.int p0), .val (.int p1), .val (.int ((p0 &&& (2147483647 : Int32)) % (6 : Int32))), .unset, .unset, .unset, .unset] [(.int (1 : Int32)), (.int ((p0 &&& (2147483647 : Int32)) % (6 : Int32)))]))) (fun t k => ?_) ?_
    · show Steps p.tables e below (s₁.setTop (mkF m 22 #[.val (.int p0), .val (.int p1), .val (.int ((p0 &&& (2147483647 : Int32)) % (6 : Int32))), .unset, .unset, .unset, .unset] [])) _
      refine XS.iloadN X0.here hx rfl (hb hby at_22) rfl ?_
      show Steps p.tables e below (s₁.setTop (mkF m 23 #[.val (.int p0), .val (.int p1), .val (.int ((p0 &&& (2147483647 : Int32)) % (6 : Int32))), .unset, .unset, .unset, .unset] [(.int ((p0 &&& (2147483647 : Int32)) % (6 : Int32)))])) _
      refine XS.iconst X0.here hx rfl (hb hby at_23) ?_
      exact k
    by_cases hc22 : ((p0 &&& (2147483647 : Int32)) % (6 : Int32)) = (1 : Int32)
    · -- hc22: yes
      refine own_go (A' := (s₁.setTop (mkF m 27 #[.val (.int p0), .val (.int p1), .val (.int ((p0 &&& (2147483647 : Int32)) % (6 : Int32))), .unset, .unset, .unset, .unset] []))) (fun t k => XS.icmpNo X0.here hx rfl (hb hby at_24) rfl (teq hc22).2 k) ?_
      obtain ⟨T23, X23, e23, st23⟩ := getS2 X0 hx hZ hown (host := "") (Or.inl (hw _ (List.mem_of_getElem? (i := 22) rfl))) Via.refl e0 S_LESS_OR_EQUAL (g := (mkF m 27 #[.val (.int p0), .val (.int p1), .val (.int ((p0 &&& (2147483647 : Int32)) % (6 : Int32))), .unset, .unset, .unset, .unset] [])) rfl (hb hby at_27)
      refine own_go (A' := (T23.setTop (mkF m 91 #[.val (.int p0), .val (.int p1), .val (.int ((p0 &&& (2147483647 : Int32)) % (6 : Int32))), .val (.ref w_LESS_OR_EQUAL), .val (.int (3 : Int32)), .unset, .unset] [(.int p1)]))) (fun t k => ?_) ?_
      · show Steps p.tables e below (s₁.setTop (mkF m 27 #[.val (.int p0), .val (.int p1), .val (.int ((p0 &&& (2147483647 : Int32)) % (6 : Int32))), .unset, .unset, .unset, .unset] [])) _
        refine st23 _ ?_
        show Steps p.tables e below (T23.setTop (mkF m 30 #[.val (.int p0), .val (.int p1), .val (.int ((p0 &&& (2147483647 : Int32)) % (6 : Int32))), .unset, .unset, .unset, .unset] [(.ref w_LESS_OR_EQUAL)])) _
        refine XS.astoreN X23.here hx rfl (hb hby at_30) rfl rfl (l' := #[.val (.int p0), .val (.int p1), .val (.int ((p0 &&& (2147483647 : Int32)) % (6 : Int32))), .val (.ref w_LESS_OR_EQUAL), .unset, .unset, .unset]) rfl ?_
        show Steps p.tables e below (T23.setTop (mkF m 31 #[.val (.int p0), .val (.int p1), .val (.int ((p0 &&& (2147483647 : Int32)) % (6 : Int32))), .val (.ref w_LESS_OR_EQUAL), .unset, .unset, .unset] [])) _
        refine XS.iconst X23.here hx rfl (hb hby at_31) ?_
        show Steps p.tables e below (T23.setTop (mkF m 32 #[.val (.int p0), .val (.int p1), .val (.int ((p0 &&& (2147483647 : Int32)) % (6 : Int32))), .val (.ref w_LESS_OR_EQUAL), .unset, .unset, .unset] [(.int (3 : Int32))])) _
        refine XS.istore X23.here hx rfl (hb hby at_32) rfl (l' := #[.val (.int p0), .val (.int p1), .val (.int ((p0 &&& (2147483647 : Int32)) % (6 : Int32))), .val (.ref w_LESS_OR_EQUAL), .val (.int (3 : Int32)), .unset, .unset]) rfl ?_
        show Steps p.tables e below (T23.setTop (mkF m 34 #[.val (.int p0), .val (.int p1), .val (.int ((p0 &&& (2147483647 : Int32)) % (6 : Int32))), .val (.ref w_LESS_OR_EQUAL), .val (.int (3 : Int32)), .unset, .unset] [])) _
        refine XS.goto X23.here hx rfl (pc0 := 34) (pc' := 90) rfl (hb hby at_34) (by decide) (by decide) ?_
        show Steps p.tables e below (T23.setTop (mkF m 90 #[.val (.int p0), .val (.int p1), .val (.int ((p0 &&& (2147483647 : Int32)) % (6 : Int32))), .val (.ref w_LESS_OR_EQUAL), .val (.int (3 : Int32)), .unset, .unset] [])) _
        refine XS.iloadN X23.here hx rfl (hb hby at_90) rfl ?_
        exact k
      by_cases hc24 : p1 < (0 : Int32)
      · -- hc24: yes
        refine own_go (A' := (T23.setTop (mkF m 94 #[.val (.int p0), .val (.int p1), .val (.int ((p0 &&& (2147483647 : Int32)) % (6 : Int32))), .val (.ref w_LESS_OR_EQUAL), .val (.int (3 : Int32)), .unset, .unset] []))) (fun t k => XS.ifNo X23.here hx rfl (hb hby at_91) rfl ((if0 _ _).trans (tlt hc24).2.1) k) ?_
        refine own_go (A' := (T23.setTop (mkF m 118 #[.val (.int p0), .val (.int p1), .val (.int ((p0 &&& (2147483647 : Int32)) % (6 : Int32))), .val (.ref w_LESS_OR_EQUAL), .val (.int (3 : Int32)), .val (.int (1 : Int32)), .unset] [(.int ((3 : Int32) &&& (1 : Int32)))]))) (fun t k => ?_) ?_
        · show Steps p.tables e below (T23.setTop (mkF m 94 #[.val (.int p0), .val (.int p1), .val (.int ((p0 &&& (2147483647 : Int32)) % (6 : Int32))), .val (.ref w_LESS_OR_EQUAL), .val (.int (3 : Int32)), .unset, .unset] [])) _
          refine XS.iconst X23.here hx rfl (hb hby at_94) ?_
          show Steps p.tables e below (T23.setTop (mkF m 95 #[.val (.int p0), .val (.int p1), .val (.int ((p0 &&& (2147483647 : Int32)) % (6 : Int32))), .val (.ref w_LESS_OR_EQUAL), .val (.int (3 : Int32)), .unset, .unset] [(.int (1 : Int32))])) _
          refine XS.istore X23.here hx rfl (hb hby at_95) rfl (l' := #[.val (.int p0), .val (.int p1), .val (.int ((p0 &&& (2147483647 : Int32)) % (6 : Int32))), .val (.ref w_LESS_OR_EQUAL), .val (.int (3 : Int32)), .val (.int (1 : Int32)), .unset]) rfl ?_
          show Steps p.tables e below (T23.setTop (mkF m 97 #[.val (.int p0), .val (.int p1), .val (.int ((p0 &&& (2147483647 : Int32)) % (6 : Int32))), .val (.ref w_LESS_OR_EQUAL), .val (.int (3 : Int32)), .val (.int (1 : Int32)), .unset] [])) _
          refine XS.goto X23.here hx rfl (pc0 := 97) (pc' := 113) rfl (hb hby at_97) (by decide) (by decide) ?_
          show Steps p.tables e below (T23.setTop (mkF m 113 #[.val (.int p0), .val (.int p1), .val (.int ((p0 &&& (2147483647 : Int32)) % (6 : Int32))), .val (.ref w_LESS_OR_EQUAL), .val (.int (3 : Int32)), .val (.int (1 : Int32)), .unset] [])) _
          refine XS.iload X23.here hx rfl (hb hby at_113) rfl ?_
          show Steps p.tables e below (T23.setTop (mkF m 115 #[.val (.int p0), .val (.int p1), .val (.int ((p0 &&& (2147483647 : Int32)) % (6 : Int32))), .val (.ref w_LESS_OR_EQUAL), .val (.int (3 : Int32)), .val (.int (1 : Int32)), .unset] [(.int (3 : Int32))])) _
          refine XS.iload X23.here hx rfl (hb hby at_115) rfl ?_
          show Steps p.tables e below (T23.setTop (mkF m 117 #[.val (.int p0), .val (.int p1), .val (.int ((p0 &&& (2147483647 : Int32)) % (6 : Int32))), .val (.ref w_LESS_OR_EQUAL), .val (.int (3 : Int32)), .val (.int (1 : Int32)), .unset] [(.int (1 : Int32)), (.int (3 : Int32))])) _
          refine XS.iand X23.here hx rfl (hb hby at_117) rfl ?_
          exact k
        refine own_go (A' := (T23.setTop (mkF m 121 #[.val (.int p0), .val (.int p1), .val (.int ((p0 &&& (2147483647 : Int32)) % (6 : Int32))), .val (.ref w_LESS_OR_EQUAL), .val (.int (3 : Int32)), .val (.int (1 : Int32)), .unset] []))) (fun t k => XS.ifNo X23.here hx rfl (hb hby at_118) rfl ((if0 _ _).trans (feq (by decide : ¬ (((3 : Int32) &&& (1 : Int32)) = (0 : Int32)))).1) k) ?_
        obtain ⟨cq25, kq25, q25a, q25b, q25c⟩ := isOf hZ e23 E_LESS_OR_EQUAL
        obtain ⟨_, _, ⟨T25, L25, k25, n25⟩, -, X25, ⟨Lc25, hQ25, l25, y25, z25⟩, st25⟩ := X23.virtualBack hx (y := (⟨"com/example/pathwarden/pathwarden/flow/Relation", "holds", "(I)Z"⟩ : MethodName)) (z := (⟨"com/example/pathwarden/pathwarden/flow/Relation", "holds", "(I)Z"⟩ : MethodName)) hown (mvT hZ (hw _ (List.mem_of_getElem? (i := 4) rfl))) (mvT hZ (hw _ (List.mem_of_getElem? (i := 5) rfl))) (notFace_of_selects (args := #[]) (mvT hZ (hw _ (List.mem_of_getElem? (i := 7) rfl)))) (mvT hZ (hw _ (List.mem_of_getElem? (i := 7) rfl))) (mvT hZ (hw _ (List.mem_of_getElem? (i := 6) rfl))) (by decide) (backOf (W := 0) (rm1 l Z a0 hw [] w_LESS_OR_EQUAL p1 (1 : Int32) h0 n0 Z0 O_LESS_OR_EQUAL_ordinal E_LESS_OR_EQUAL (by decide)) hZ (hw _ (List.mem_of_getElem? (i := 8) rfl)) (hw _ (List.mem_of_getElem? (i := 2) rfl)) (by decide) (by decide)) q25a q25c (g := (mkF m 130 #[.val (.int p0), .val (.int p1), .val (.int ((p0 &&& (2147483647 : Int32)) % (6 : Int32))), .val (.ref w_LESS_OR_EQUAL), .val (.int (3 : Int32)), .val (.int (1 : Int32)), .val (.int (1 : Int32))] [(.int p1), (.ref w_LESS_OR_EQUAL)])) rfl (by rw [hml]; rfl) (Steps.refl _) (argsL := [(.int p1)]) (rest := []) (lenOf pd_1 rfl) rfl (by show 2 * 0 + _ ≤ _; exact Nat.le_of_eq rfl) (hb hby at_130) (fun _ _ => ⟨rfl, e23, (by decide : 0 + 0 ≤ _), (by decide : 0 + 0 ≤ _)⟩)
        dsimp only [Pt.U, Pt.locs, Pt.cells, Pt.slots] at X25 l25 y25 z25 st25 hQ25
        subst l25 y25 z25
        obtain ⟨rfl, N25q, e25⟩ := hQ25
        have N25 := Fr.app N0 N25q
        refine own_go (A' := (T25.setTop (mkF m 135 #[.val (.int p0), .val (.int p1), .val (.int ((p0 &&& (2147483647 : Int32)) % (6 : Int32))), .val (.ref w_LESS_OR_EQUAL), .val (.int (3 : Int32)), .val (.int (1 : Int32)), .val (.int (1 : Int32))] [(.int (1 : Int32)), (.int (hold (1 : Int32) p1))]))) (fun t k => ?_) ?_
        · show Steps p.tables e below (T23.setTop (mkF m 121 #[.val (.int p0), .val (.int p1), .val (.int ((p0 &&& (2147483647 : Int32)) % (6 : Int32))), .val (.ref w_LESS_OR_EQUAL), .val (.int (3 : Int32)), .val (.int (1 : Int32)), .unset] [])) _
          refine XS.iconst X23.here hx rfl (hb hby at_121) ?_
          show Steps p.tables e below (T23.setTop (mkF m 122 #[.val (.int p0), .val (.int p1), .val (.int ((p0 &&& (2147483647 : Int32)) % (6 : Int32))), .val (.ref w_LESS_OR_EQUAL), .val (.int (3 : Int32)), .val (.int (1 : Int32)), .unset] [(.int (1 : Int32))])) _
          refine XS.goto X23.here hx rfl (pc0 := 122) (pc' := 126) rfl (hb hby at_122) (by decide) (by decide) ?_
          show Steps p.tables e below (T23.setTop (mkF m 126 #[.val (.int p0), .val (.int p1), .val (.int ((p0 &&& (2147483647 : Int32)) % (6 : Int32))), .val (.ref w_LESS_OR_EQUAL), .val (.int (3 : Int32)), .val (.int (1 : Int32)), .unset] [(.int (1 : Int32))])) _
          refine XS.istore X23.here hx rfl (hb hby at_126) rfl (l' := #[.val (.int p0), .val (.int p1), .val (.int ((p0 &&& (2147483647 : Int32)) % (6 : Int32))), .val (.ref w_LESS_OR_EQUAL), .val (.int (3 : Int32)), .val (.int (1 : Int32)), .val (.int (1 : Int32))]) rfl ?_
          show Steps p.tables e below (T23.setTop (mkF m 128 #[.val (.int p0), .val (.int p1), .val (.int ((p0 &&& (2147483647 : Int32)) % (6 : Int32))), .val (.ref w_LESS_OR_EQUAL), .val (.int (3 : Int32)), .val (.int (1 : Int32)), .val (.int (1 : Int32))] [])) _
          refine XS.aloadN X23.here hx rfl (hb hby at_128) rfl rfl ?_
          show Steps p.tables e below (T23.setTop (mkF m 129 #[.val (.int p0), .val (.int p1), .val (.int ((p0 &&& (2147483647 : Int32)) % (6 : Int32))), .val (.ref w_LESS_OR_EQUAL), .val (.int (3 : Int32)), .val (.int (1 : Int32)), .val (.int (1 : Int32))] [(.ref w_LESS_OR_EQUAL)])) _
          refine XS.iloadN X23.here hx rfl (hb hby at_129) rfl ?_
          show Steps p.tables e below (T23.setTop (mkF m 130 #[.val (.int p0), .val (.int p1), .val (.int ((p0 &&& (2147483647 : Int32)) % (6 : Int32))), .val (.ref w_LESS_OR_EQUAL), .val (.int (3 : Int32)), .val (.int (1 : Int32)), .val (.int (1 : Int32))] [(.int p1), (.ref w_LESS_OR_EQUAL)])) _
          refine st25.trans ?_
          show Steps p.tables e below (T25.setTop (mkF m 133 #[.val (.int p0), .val (.int p1), .val (.int ((p0 &&& (2147483647 : Int32)) % (6 : Int32))), .val (.ref w_LESS_OR_EQUAL), .val (.int (3 : Int32)), .val (.int (1 : Int32)), .val (.int (1 : Int32))] [(.int (hold (1 : Int32) p1))])) _
          refine XS.iload X25.here hx rfl (hb hby at_133) rfl ?_
          exact k
        refine own_go (A' := (T25.setTop (mkF m 138 #[.val (.int p0), .val (.int p1), .val (.int ((p0 &&& (2147483647 : Int32)) % (6 : Int32))), .val (.ref w_LESS_OR_EQUAL), .val (.int (3 : Int32)), .val (.int (1 : Int32)), .val (.int (1 : Int32))] []))) (fun t k => XS.icmpNo X25.here hx rfl (hb hby at_135) rfl (teq (by simp [hold, hc24, (own_hA hc24).1, (own_hA hc24).2])).2 k) ?_
        refine own_go (A' := (T25.setTop (mkF m 143 #[.val (.int p0), .val (.int p1), .val (.int ((p0 &&& (2147483647 : Int32)) % (6 : Int32))), .val (.ref w_LESS_OR_EQUAL), .val (.int (3 : Int32)), .val (.int (1 : Int32)), .val (.int (1 : Int32))] [(.int (1 : Int32))]))) (fun t k => ?_) ?_
        · show Steps p.tables e below (T25.setTop (mkF m 138 #[.val (.int p0), .val (.int p1), .val (.int ((p0 &&& (2147483647 : Int32)) % (6 : Int32))), .val (.ref w_LESS_OR_EQUAL), .val (.int (3 : Int32)), .val (.int (1 : Int32)), .val (.int (1 : Int32))] [])) _
          refine XS.iconst X25.here hx rfl (hb hby at_138) ?_
          show Steps p.tables e below (T25.setTop (mkF m 139 #[.val (.int p0), .val (.int p1), .val (.int ((p0 &&& (2147483647 : Int32)) % (6 : Int32))), .val (.ref w_LESS_OR_EQUAL), .val (.int (3 : Int32)), .val (.int (1 : Int32)), .val (.int (1 : Int32))] [(.int (1 : Int32))])) _
          refine XS.goto X25.here hx rfl (pc0 := 139) (pc' := 143) rfl (hb hby at_139) (by decide) (by decide) ?_
          exact k
        obtain ⟨fs, hr, hrun, hended, hW, hsame⟩ := X25.leave (v := some (.int (1 : Int32))) (fun h => by rw [Bd.returns] at h; cases h)
        refine ⟨_, _, ?_, hrun, hended, _, _, rfl, ?_, ⟨_, rfl⟩, hW, hsame.mono (by decide) (by decide)⟩
        · show Steps p.tables e below (T25.setTop (mkF m 143 #[.val (.int p0), .val (.int p1), .val (.int ((p0 &&& (2147483647 : Int32)) % (6 : Int32))), .val (.ref w_LESS_OR_EQUAL), .val (.int (3 : Int32)), .val (.int (1 : Int32)), .val (.int (1 : Int32))] [(.int (1 : Int32))])) _
          exact retN X25 hx (t := .boolean) Bd.returns (by simp) (hb hby at_143) hr
        · show Q0 Z p0 p1 w_LESS w_EQUAL w_GREATER_OR_EQUAL w_LESS_OR_EQUAL w_GREATER w_NOT_EQUAL h0 n0 _ _ _
          exact ⟨rfl, N25⟩
      · -- hc24: no
        refine own_go (A' := (T23.setTop (mkF m 100 #[.val (.int p0), .val (.int p1), .val (.int ((p0 &&& (2147483647 : Int32)) % (6 : Int32))), .val (.ref w_LESS_OR_EQUAL), .val (.int (3 : Int32)), .unset, .unset] []))) (fun t k => XS.ifYes X23.here hx rfl (pc0 := 91) (pc' := 100) rfl (hb hby at_91) rfl ((if0 _ _).trans (flt hc24).2.1) (by decide) (by decide) k) ?_
        refine own_go (A' := (T23.setTop (mkF m 101 #[.val (.int p0), .val (.int p1), .val (.int ((p0 &&& (2147483647 : Int32)) % (6 : Int32))), .val (.ref w_LESS_OR_EQUAL), .val (.int (3 : Int32)), .unset, .unset] [(.int p1)]))) (fun t k => ?_) ?_
        · show Steps p.tables e below (T23.setTop (mkF m 100 #[.val (.int p0), .val (.int p1), .val (.int ((p0 &&& (2147483647 : Int32)) % (6 : Int32))), .val (.ref w_LESS_OR_EQUAL), .val (.int (3 : Int32)), .unset, .unset] [])) _
          refine XS.iloadN X23.here hx rfl (hb hby at_100) rfl ?_
          exact k
        by_cases hc26 : p1 = (0 : Int32)
        · -- hc26: yes
          refine own_go (A' := (T23.setTop (mkF m 104 #[.val (.int p0), .val (.int p1), .val (.int ((p0 &&& (2147483647 : Int32)) % (6 : Int32))), .val (.ref w_LESS_OR_EQUAL), .val (.int (3 : Int32)), .unset, .unset] []))) (fun t k => XS.ifNo X23.here hx rfl (hb hby at_101) rfl ((if0 _ _).trans (teq hc26).2) k) ?_
          refine own_go (A' := (T23.setTop (mkF m 118 #[.val (.int p0), .val (.int p1), .val (.int ((p0 &&& (2147483647 : Int32)) % (6 : Int32))), .val (.ref w_LESS_OR_EQUAL), .val (.int (3 : Int32)), .val (.int (2 : Int32)), .unset] [(.int ((3 : Int32) &&& (2 : Int32)))]))) (fun t k => ?_) ?_
          · show Steps p.tables e below (T23.setTop (mkF m 104 #[.val (.int p0), .val (.int p1), .val (.int ((p0 &&& (2147483647 : Int32)) % (6 : Int32))), .val (.ref w_LESS_OR_EQUAL), .val (.int (3 : Int32)), .unset, .unset] [])) _
            refine XS.iconst X23.here hx rfl (hb hby at_104) ?_
            show Steps p.tables e below (T23.setTop (mkF m 105 #[.val (.int p0), .val (.int p1), .val (.int ((p0 &&& (2147483647 : Int32)) % (6 : Int32))), .val (.ref w_LESS_OR_EQUAL), .val (.int (3 : Int32)), .unset, .unset] [(.int (2 : Int32))])) _
            refine XS.istore X23.here hx rfl (hb hby at_105) rfl (l' := #[.val (.int p0), .val (.int p1), .val (.int ((p0 &&& (2147483647 : Int32)) % (6 : Int32))), .val (.ref w_LESS_OR_EQUAL), .val (.int (3 : Int32)), .val (.int (2 : Int32)), .unset]) rfl ?_
            show Steps p.tables e below (T23.setTop (mkF m 107 #[.val (.int p0), .val (.int p1), .val (.int ((p0 &&& (2147483647 : Int32)) % (6 : Int32))), .val (.ref w_LESS_OR_EQUAL), .val (.int (3 : Int32)), .val (.int (2 : Int32)), .unset] [])) _
            refine XS.goto X23.here hx rfl (pc0 := 107) (pc' := 113) rfl (hb hby at_107) (by decide) (by decide) ?_
            show Steps p.tables e below (T23.setTop (mkF m 113 #[.val (.int p0), .val (.int p1), .val (.int ((p0 &&& (2147483647 : Int32)) % (6 : Int32))), .val (.ref w_LESS_OR_EQUAL), .val (.int (3 : Int32)), .val (.int (2 : Int32)), .unset] [])) _
            refine XS.iload X23.here hx rfl (hb hby at_113) rfl ?_
            show Steps p.tables e below (T23.setTop (mkF m 115 #[.val (.int p0), .val (.int p1), .val (.int ((p0 &&& (2147483647 : Int32)) % (6 : Int32))), .val (.ref w_LESS_OR_EQUAL), .val (.int (3 : Int32)), .val (.int (2 : Int32)), .unset] [(.int (3 : Int32))])) _
            refine XS.iload X23.here hx rfl (hb hby at_115) rfl ?_
            show Steps p.tables e below (T23.setTop (mkF m 117 #[.val (.int p0), .val (.int p1), .val (.int ((p0 &&& (2147483647 : Int32)) % (6 : Int32))), .val (.ref w_LESS_OR_EQUAL), .val (.int (3 : Int32)), .val (.int (2 : Int32)), .unset] [(.int (2 : Int32)), (.int (3 : Int32))])) _
            refine XS.iand X23.here hx rfl (hb hby at_117) rfl ?_
            exact k
          refine own_go (A' := (T23.setTop (mkF m 121 #[.val (.int p0), .val (.int p1), .val (.int ((p0 &&& (2147483647 : Int32)) % (6 : Int32))), .val (.ref w_LESS_OR_EQUAL), .val (.int (3 : Int32)), .val (.int (2 : Int32)), .unset] []))) (fun t k => XS.ifNo X23.here hx rfl (hb hby at_118) rfl ((if0 _ _).trans (feq (by decide : ¬ (((3 : Int32) &&& (2 : Int32)) = (0 : Int32)))).1) k) ?_
          obtain ⟨cq27, kq27, q27a, q27b, q27c⟩ := isOf hZ e23 E_LESS_OR_EQUAL
          obtain ⟨_, _, ⟨T27, L27, k27, n27⟩, -, X27, ⟨Lc27, hQ27, l27, y27, z27⟩, st27⟩ := X23.virtualBack hx (y := (⟨"com/example/pathwarden/pathwarden/flow/Relation", "holds", "(I)Z"⟩ : MethodName)) (z := (⟨"com/example/pathwarden/pathwarden/flow/Relation", "holds", "(I)Z"⟩ : MethodName)) hown (mvT hZ (hw _ (List.mem_of_getElem? (i := 4) rfl))) (mvT hZ (hw _ (List.mem_of_getElem? (i := 5) rfl))) (notFace_of_selects (args := #[]) (mvT hZ (hw _ (List.mem_of_getElem? (i := 7) rfl)))) (mvT hZ (hw _ (List.mem_of_getElem? (i := 7) rfl))) (mvT hZ (hw _ (List.mem_of_getElem? (i := 6) rfl))) (by decide) (backOf (W := 0) (rm1 l Z a0 hw [] w_LESS_OR_EQUAL p1 (1 : Int32) h0 n0 Z0 O_LESS_OR_EQUAL_ordinal E_LESS_OR_EQUAL (by decide)) hZ (hw _ (List.mem_of_getElem? (i := 8) rfl)) (hw _ (List.mem_of_getElem? (i := 2) rfl)) (by decide) (by decide)) q27a q27c (g := (mkF m 130 #[.val (.int p0), .val (.int p1), .val (.int ((p0 &&& (2147483647 : Int32)) % (6 : Int32))), .val (.ref w_LESS_OR_EQUAL), .val (.int (3 : Int32)), .val (.int (2 : Int32)), .val (.int (1 : Int32))] [(.int p1), (.ref w_LESS_OR_EQUAL)])) rfl (by rw [hml]; rfl) (Steps.refl _) (argsL := [(.int p1)]) (rest := []) (lenOf pd_1 rfl) rfl (by show 2 * 0 + _ ≤ _; exact Nat.le_of_eq rfl) (hb hby at_130) (fun _ _ => ⟨rfl, e23, (by decide : 0 + 0 ≤ _), (by decide : 0 + 0 ≤ _)⟩)
          dsimp only [Pt.U, Pt.locs, Pt.cells, Pt.slots] at X27 l27 y27 z27 st27 hQ27
          subst l27 y27 z27
          obtain ⟨rfl, N27q, e27⟩ := hQ27
          have N27 := Fr.app N0 N27q
          refine own_go (A' := (T27.setTop (mkF m 135 #[.val (.int p0), .val (.int p1), .val (.int ((p0 &&& (2147483647 : Int32)) % (6 : Int32))), .val (.ref w_LESS_OR_EQUAL), .val (.int (3 : Int32)), .val (.int (2 : Int32)), .val (.int (1 : Int32))] [(.int (1 : Int32)), (.int (hold (1 : Int32) p1))]))) (fun t k => ?_) ?_
          · show Steps p.tables e below (T23.setTop (mkF m 121 #[.val (.int p0), .val (.int p1), .val (.int ((p0 &&& (2147483647 : Int32)) % (6 : Int32))), .val (.ref w_LESS_OR_EQUAL), .val (.int (3 : Int32)), .val (.int (2 : Int32)), .unset] [])) _
            refine XS.iconst X23.here hx rfl (hb hby at_121) ?_
            show Steps p.tables e below (T23.setTop (mkF m 122 #[.val (.int p0), .val (.int p1), .val (.int ((p0 &&& (2147483647 : Int32)) % (6 : Int32))), .val (.ref w_LESS_OR_EQUAL), .val (.int (3 : Int32)), .val (.int (2 : Int32)), .unset] [(.int (1 : Int32))])) _
            refine XS.goto X23.here hx rfl (pc0 := 122) (pc' := 126) rfl (hb hby at_122) (by decide) (by decide) ?_
            show Steps p.tables e below (T23.setTop (mkF m 126 #[.val (.int p0), .val (.int p1), .val (.int ((p0 &&& (2147483647 : Int32)) % (6 : Int32))), .val (.ref w_LESS_OR_EQUAL), .val (.int (3 : Int32)), .val (.int (2 : Int32)), .unset] [(.int (1 : Int32))])) _
            refine XS.istore X23.here hx rfl (hb hby at_126) rfl (l' := #[.val (.int p0), .val (.int p1), .val (.int ((p0 &&& (2147483647 : Int32)) % (6 : Int32))), .val (.ref w_LESS_OR_EQUAL), .val (.int (3 : Int32)), .val (.int (2 : Int32)), .val (.int (1 : Int32))]) rfl ?_
            show Steps p.tables e below (T23.setTop (mkF m 128 #[.val (.int p0), .val (.int p1), .val (.int ((p0 &&& (2147483647 : Int32)) % (6 : Int32))), .val (.ref w_LESS_OR_EQUAL), .val (.int (3 : Int32)), .val (.int (2 : Int32)), .val (.int (1 : Int32))] [])) _
            refine XS.aloadN X23.here hx rfl (hb hby at_128) rfl rfl ?_
            show Steps p.tables e below (T23.setTop (mkF m 129 #[.val (.int p0), .val (.int p1), .val (.int ((p0 &&& (2147483647 : Int32)) % (6 : Int32))), .val (.ref w_LESS_OR_EQUAL), .val (.int (3 : Int32)), .val (.int (2 : Int32)), .val (.int (1 : Int32))] [(.ref w_LESS_OR_EQUAL)])) _
            refine XS.iloadN X23.here hx rfl (hb hby at_129) rfl ?_
            show Steps p.tables e below (T23.setTop (mkF m 130 #[.val (.int p0), .val (.int p1), .val (.int ((p0 &&& (2147483647 : Int32)) % (6 : Int32))), .val (.ref w_LESS_OR_EQUAL), .val (.int (3 : Int32)), .val (.int (2 : Int32)), .val (.int (1 : Int32))] [(.int p1), (.ref w_LESS_OR_EQUAL)])) _
            refine st27.trans ?_
            show Steps p.tables e below (T27.setTop (mkF m 133 #[.val (.int p0), .val (.int p1), .val (.int ((p0 &&& (2147483647 : Int32)) % (6 : Int32))), .val (.ref w_LESS_OR_EQUAL), .val (.int (3 : Int32)), .val (.int (2 : Int32)), .val (.int (1 : Int32))] [(.int (hold (1 : Int32) p1))])) _
            refine XS.iload X27.here hx rfl (hb hby at_133) rfl ?_
            exact k
          refine own_go (A' := (T27.setTop (mkF m 138 #[.val (.int p0), .val (.int p1), .val (.int ((p0 &&& (2147483647 : Int32)) % (6 : Int32))), .val (.ref w_LESS_OR_EQUAL), .val (.int (3 : Int32)), .val (.int (2 : Int32)), .val (.int (1 : Int32))] []))) (fun t k => XS.icmpNo X27.here hx rfl (hb hby at_135) rfl (teq (by simp [hold, hc26])).2 k) ?_
          refine own_go (A' := (T27.setTop (mkF m 143 #[.val (.int p0), .val (.int p1), .val (.int ((p0 &&& (2147483647 : Int32)) % (6 : Int32))), .val (.ref w_LESS_OR_EQUAL), .val (.int (3 : Int32)), .val (.int (2 : Int32)), .val (.int (1 : Int32))] [(.int (1 : Int32))]))) (fun t k => ?_) ?_
          · show Steps p.tables e below (T27.setTop (mkF m 138 #[.val (.int p0), .val (.int p1), .val (.int ((p0 &&& (2147483647 : Int32)) % (6 : Int32))), .val (.ref w_LESS_OR_EQUAL), .val (.int (3 : Int32)), .val (.int (2 : Int32)), .val (.int (1 : Int32))] [])) _
            refine XS.iconst X27.here hx rfl (hb hby at_138) ?_
            show Steps p.tables e below (T27.setTop (mkF m 139 #[.val (.int p0), .val (.int p1), .val (.int ((p0 &&& (2147483647 : Int32)) % (6 : Int32))), .val (.ref w_LESS_OR_EQUAL), .val (.int (3 : Int32)), .val (.int (2 : Int32)), .val (.int (1 : Int32))] [(.int (1 : Int32))])) _
            refine XS.goto X27.here hx rfl (pc0 := 139) (pc' := 143) rfl (hb hby at_139) (by decide) (by decide) ?_
            exact k
          obtain ⟨fs, hr, hrun, hended, hW, hsame⟩ := X27.leave (v := some (.int (1 : Int32))) (fun h => by rw [Bd.returns] at h; cases h)
          refine ⟨_, _, ?_, hrun, hended, _, _, rfl, ?_, ⟨_, rfl⟩, hW, hsame.mono (by decide) (by decide)⟩
          · show Steps p.tables e below (T27.setTop (mkF m 143 #[.val (.int p0), .val (.int p1), .val (.int ((p0 &&& (2147483647 : Int32)) % (6 : Int32))), .val (.ref w_LESS_OR_EQUAL), .val (.int (3 : Int32)), .val (.int (2 : Int32)), .val (.int (1 : Int32))] [(.int (1 : Int32))])) _
            exact retN X27 hx (t := .boolean) Bd.returns (by simp) (hb hby at_143) hr
          · show Q0 Z p0 p1 w_LESS w_EQUAL w_GREATER_OR_EQUAL w_LESS_OR_EQUAL w_GREATER w_NOT_EQUAL h0 n0 _ _ _
            exact ⟨rfl, N27⟩
        · -- hc26: no
          refine own_go (A' := (T23.setTop (mkF m 110 #[.val (.int p0), .val (.int p1), .val (.int ((p0 &&& (2147483647 : Int32)) % (6 : Int32))), .val (.ref w_LESS_OR_EQUAL), .val (.int (3 : Int32)), .unset, .unset] []))) (fun t k => XS.ifYes X23.here hx rfl (pc0 := 101) (pc' := 110) rfl (hb hby at_101) rfl ((if0 _ _).trans (feq hc26).2) (by decide) (by decide) k) ?_
          refine own_go (A' := (T23.setTop (mkF m 118 #[.val (.int p0), .val (.int p1), .val (.int ((p0 &&& (2147483647 : Int32)) % (6 : Int32))), .val (.ref w_LESS_OR_EQUAL), .val (.int (3 : Int32)), .val (.int (4 : Int32)), .unset] [(.int ((3 : Int32) &&& (4 : Int32)))]))) (fun t k => ?_) ?_
          · show Steps p.tables e below (T23.setTop (mkF m 110 #[.val (.int p0), .val (.int p1), .val (.int ((p0 &&& (2147483647 : Int32)) % (6 : Int32))), .val (.ref w_LESS_OR_EQUAL), .val (.int (3 : Int32)), .unset, .unset] [])) _
            refine XS.iconst X23.here hx rfl (hb hby at_110) ?_
            show Steps p.tables e below (T23.setTop (mkF m 111 #[.val (.int p0), .val (.int p1), .val (.int ((p0 &&& (2147483647 : Int32)) % (6 : Int32))), .val (.ref w_LESS_OR_EQUAL), .val (.int (3 : Int32)), .unset, .unset] [(.int (4 : Int32))])) _
            refine XS.istore X23.here hx rfl (hb hby at_111) rfl (l' := #[.val (.int p0), .val (.int p1), .val (.int ((p0 &&& (2147483647 : Int32)) % (6 : Int32))), .val (.ref w_LESS_OR_EQUAL), .val (.int (3 : Int32)), .val (.int (4 : Int32)), .unset]) rfl ?_
            show Steps p.tables e below (T23.setTop (mkF m 113 #[.val (.int p0), .val (.int p1), .val (.int ((p0 &&& (2147483647 : Int32)) % (6 : Int32))), .val (.ref w_LESS_OR_EQUAL), .val (.int (3 : Int32)), .val (.int (4 : Int32)), .unset] [])) _
            refine XS.iload X23.here hx rfl (hb hby at_113) rfl ?_
            show Steps p.tables e below (T23.setTop (mkF m 115 #[.val (.int p0), .val (.int p1), .val (.int ((p0 &&& (2147483647 : Int32)) % (6 : Int32))), .val (.ref w_LESS_OR_EQUAL), .val (.int (3 : Int32)), .val (.int (4 : Int32)), .unset] [(.int (3 : Int32))])) _
            refine XS.iload X23.here hx rfl (hb hby at_115) rfl ?_
            show Steps p.tables e below (T23.setTop (mkF m 117 #[.val (.int p0), .val (.int p1), .val (.int ((p0 &&& (2147483647 : Int32)) % (6 : Int32))), .val (.ref w_LESS_OR_EQUAL), .val (.int (3 : Int32)), .val (.int (4 : Int32)), .unset] [(.int (4 : Int32)), (.int (3 : Int32))])) _
            refine XS.iand X23.here hx rfl (hb hby at_117) rfl ?_
            exact k
          refine own_go (A' := (T23.setTop (mkF m 125 #[.val (.int p0), .val (.int p1), .val (.int ((p0 &&& (2147483647 : Int32)) % (6 : Int32))), .val (.ref w_LESS_OR_EQUAL), .val (.int (3 : Int32)), .val (.int (4 : Int32)), .unset] []))) (fun t k => XS.ifYes X23.here hx rfl (pc0 := 118) (pc' := 125) rfl (hb hby at_118) rfl ((if0 _ _).trans (teq (by decide : ((3 : Int32) &&& (4 : Int32)) = (0 : Int32))).1) (by decide) (by decide) k) ?_
          obtain ⟨cq28, kq28, q28a, q28b, q28c⟩ := isOf hZ e23 E_LESS_OR_EQUAL
          obtain ⟨_, _, ⟨T28, L28, k28, n28⟩, -, X28, ⟨Lc28, hQ28, l28, y28, z28⟩, st28⟩ := X23.virtualBack hx (y := (⟨"com/example/pathwarden/pathwarden/flow/Relation", "holds", "(I)Z"⟩ : MethodName)) (z := (⟨"com/example/pathwarden/pathwarden/flow/Relation", "holds", "(I)Z"⟩ : MethodName)) hown (mvT hZ (hw _ (List.mem_of_getElem? (i := 4) rfl))) (mvT hZ (hw _ (List.mem_of_getElem? (i := 5) rfl))) (notFace_of_selects (args := #[]) (mvT hZ (hw _ (List.mem_of_getElem? (i := 7) rfl)))) (mvT hZ (hw _ (List.mem_of_getElem? (i := 7) rfl))) (mvT hZ (hw _ (List.mem_of_getElem? (i := 6) rfl))) (by decide) (backOf (W := 0) (rm1 l Z a0 hw [] w_LESS_OR_EQUAL p1 (1 : Int32) h0 n0 Z0 O_LESS_OR_EQUAL_ordinal E_LESS_OR_EQUAL (by decide)) hZ (hw _ (List.mem_of_getElem? (i := 8) rfl)) (hw _ (List.mem_of_getElem? (i := 2) rfl)) (by decide) (by decide)) q28a q28c (g := (mkF m 130 #[.val (.int p0), .val (.int p1), .val (.int ((p0 &&& (2147483647 : Int32)) % (6 : Int32))), .val (.ref w_LESS_OR_EQUAL), .val (.int (3 : Int32)), .val (.int (4 : Int32)), .val (.int (0 : Int32))] [(.int p1), (.ref w_LESS_OR_EQUAL)])) rfl (by rw [hml]; rfl) (Steps.refl _) (argsL := [(.int p1)]) (rest := []) (lenOf pd_1 rfl) rfl (by show 2 * 0 + _ ≤ _; exact Nat.le_of_eq rfl) (hb hby at_130) (fun _ _ => ⟨rfl, e23, (by decide : 0 + 0 ≤ _), (by decide : 0 + 0 ≤ _)⟩)
          dsimp only [Pt.U, Pt.locs, Pt.cells, Pt.slots] at X28 l28 y28 z28 st28 hQ28
          subst l28 y28 z28
          obtain ⟨rfl, N28q, e28⟩ := hQ28
          have N28 := Fr.app N0 N28q
          refine own_go (A' := (T28.setTop (mkF m 135 #[.val (.int p0), .val (.int p1), .val (.int ((p0 &&& (2147483647 : Int32)) % (6 : Int32))), .val (.ref w_LESS_OR_EQUAL), .val (.int (3 : Int32)), .val (.int (4 : Int32)), .val (.int (0 : Int32))] [(.int (0 : Int32)), (.int (hold (1 : Int32) p1))]))) (fun t k => ?_) ?_
          · show Steps p.tables e below (T23.setTop (mkF m 125 #[.val (.int p0), .val (.int p1), .val (.int ((p0 &&& (2147483647 : Int32)) % (6 : Int32))), .val (.ref w_LESS_OR_EQUAL), .val (.int (3 : Int32)), .val (.int (4 : Int32)), .unset] [])) _
            refine XS.iconst X23.here hx rfl (hb hby at_125) ?_
            show Steps p.tables e below (T23.setTop (mkF m 126 #[.val (.int p0), .val (.int p1), .val (.int ((p0 &&& (2147483647 : Int32)) % (6 : Int32))), .val (.ref w_LESS_OR_EQUAL), .val (.int (3 : Int32)), .val (.int (4 : Int32)), .unset] [(.int (0 : Int32))])) _
            refine XS.istore X23.here hx rfl (hb hby at_126) rfl (l' := #[.val (.int p0), .val (.int p1), .val (.int ((p0 &&& (2147483647 : Int32)) % (6 : Int32))), .val (.ref w_LESS_OR_EQUAL), .val (.int (3 : Int32)), .val (.int (4 : Int32)), .val (.int (0 : Int32))]) rfl ?_
            show Steps p.tables e below (T23.setTop (mkF m 128 #[.val (.int p0), .val (.int p1), .val (.int ((p0 &&& (2147483647 : Int32)) % (6 : Int32))), .val (.ref w_LESS_OR_EQUAL), .val (.int (3 : Int32)), .val (.int (4 : Int32)), .val (.int (0 : Int32))] [])) _
            refine XS.aloadN X23.here hx rfl (hb hby at_128) rfl rfl ?_
            show Steps p.tables e below (T23.setTop (mkF m 129 #[.val (.int p0), .val (.int p1), .val (.int ((p0 &&& (2147483647 : Int32)) % (6 : Int32))), .val (.ref w_LESS_OR_EQUAL), .val (.int (3 : Int32)), .val (.int (4 : Int32)), .val (.int (0 : Int32))] [(.ref w_LESS_OR_EQUAL)])) _
            refine XS.iloadN X23.here hx rfl (hb hby at_129) rfl ?_
            show Steps p.tables e below (T23.setTop (mkF m 130 #[.val (.int p0), .val (.int p1), .val (.int ((p0 &&& (2147483647 : Int32)) % (6 : Int32))), .val (.ref w_LESS_OR_EQUAL), .val (.int (3 : Int32)), .val (.int (4 : Int32)), .val (.int (0 : Int32))] [(.int p1), (.ref w_LESS_OR_EQUAL)])) _
            refine st28.trans ?_
            show Steps p.tables e below (T28.setTop (mkF m 133 #[.val (.int p0), .val (.int p1), .val (.int ((p0 &&& (2147483647 : Int32)) % (6 : Int32))), .val (.ref w_LESS_OR_EQUAL), .val (.int (3 : Int32)), .val (.int (4 : Int32)), .val (.int (0 : Int32))] [(.int (hold (1 : Int32) p1))])) _
            refine XS.iload X28.here hx rfl (hb hby at_133) rfl ?_
            exact k
          refine own_go (A' := (T28.setTop (mkF m 138 #[.val (.int p0), .val (.int p1), .val (.int ((p0 &&& (2147483647 : Int32)) % (6 : Int32))), .val (.ref w_LESS_OR_EQUAL), .val (.int (3 : Int32)), .val (.int (4 : Int32)), .val (.int (0 : Int32))] []))) (fun t k => XS.icmpNo X28.here hx rfl (hb hby at_135) rfl (teq (by simp [hold, hc24, hc26, own_hC hc24 hc26])).2 k) ?_
          refine own_go (A' := (T28.setTop (mkF m 143 #[.val (.int p0), .val (.int p1), .val (.int ((p0 &&& (2147483647 : Int32)) % (6 : Int32))), .val (.ref w_LESS_OR_EQUAL), .val (.int (3 : Int32)), .val (.int (4 : Int32)), .val (.int (0 : Int32))] [(.int (1 : Int32))]))) (fun t k => ?_) ?_
          · show Steps p.tables e below (T28.setTop (mkF m 138 #[.val (.int p0), .val (.int p1), .val (.int ((p0 &&& (2147483647 : Int32)) % (6 : Int32))), .val (.ref w_LESS_OR_EQUAL), .val (.int (3 : Int32)), .val (.int (4 : Int32)), .val (.int (0 : Int32))] [])) _
            refine XS.iconst X28.here hx rfl (hb hby at_138) ?_
            show Steps p.tables e below (T28.setTop (mkF m 139 #[.val (.int p0), .val (.int p1), .val (.int ((p0 &&& (2147483647 : Int32)) % (6 : Int32))), .val (.ref w_LESS_OR_EQUAL), .val (.int (3 : Int32)), .val (.int (4 : Int32)), .val (.int (0 : Int32))] [(.int (1 : Int32))])) _
            refine XS.goto X28.here hx rfl (pc0 := 139) (pc' := 143) rfl (hb hby at_139) (by decide) (by decide) ?_
            exact k
          obtain ⟨fs, hr, hrun, hended, hW, hsame⟩ := X28.leave (v := some (.int (1 : Int32))) (fun h => by rw [Bd.returns] at h; cases h)
          refine ⟨_, _, ?_, hrun, hended, _, _, rfl, ?_, ⟨_, rfl⟩, hW, hsame.mono (by decide) (by decide)⟩
          · show Steps p.tables e below (T28.setTop (mkF m 143 #[.val (.int p0), .val (.int p1), .val (.int ((p0 &&& (2147483647 : Int32)) % (6 : Int32))), .val (.ref w_LESS_OR_EQUAL), .val (.int (3 : Int32)), .val (.int (4 : Int32)), .val (.int (0 : Int32))] [(.int (1 : Int32))])) _
            exact retN X28 hx (t := .boolean) Bd.returns (by simp) (hb hby at_143) hr
          · show Q0 Z p0 p1 w_LESS w_EQUAL w_GREATER_OR_EQUAL w_LESS_OR_EQUAL w_GREATER w_NOT_EQUAL h0 n0 _ _ _
            exact ⟨rfl, N28⟩
    · -- hc22: no
      refine own_go (A' := (s₁.setTop (mkF m 37 #[.val (.int p0), .val (.int p1), .val (.int ((p0 &&& (2147483647 : Int32)) % (6 : Int32))), .unset, .unset, .unset, .unset] []))) (fun t k => XS.icmpYes X0.here hx rfl (pc0 := 24) (pc' := 37) rfl (hb hby at_24) rfl (feq hc22).2 (by decide) (by decide) k) ?_
      refine own_go (A' := (s₁.setTop (mkF m 39 #[.val (.int p0), .val (.int p1), .val (.int ((p0 &&& (2147483647 : Int32)) % (6 : Int32))), .unset, .unset, .unset, .unset] [(.int (2 : Int32)), (.int ((p0 &&& (2147483647 : Int32)) % (6 : Int32)))]))) (fun t k => ?_) ?_
      · show Steps p.tables e below (s₁.setTop (mkF m 37 #[.val (.int p0), .val (.int p1), .val (.int ((p0 &&& (2147483647 : Int32)) % (6 : Int32))), .unset, .unset, .unset, .unset] [])) _
        refine XS.iloadN X0.here hx rfl (hb hby at_37) rfl ?_
        show Steps p.tables e below (s₁.setTop (mkF m 38 #[.val (.int p0), .val (.int p1), .val (.int ((p0 &&& (2147483647 : Int32)) % (6 : Int32))), .unset, .unset, .unset, .unset] [(.int ((p0 &&& (2147483647 : Int32)) % (6 : Int32)))])) _
        refine XS.iconst X0.here hx rfl (hb hby at_38) ?_
        exact k
      by_cases hc29 : ((p0 &&& (2147483647 : Int32)) % (6 : Int32)) = (2 : Int32)
      · -- hc29: yes
        refine own_go (A' := (s₁.setTop (mkF m 42 #[.val (.int p0), .val (.int p1), .val (.int ((p0 &&& (2147483647 : Int32)) % (6 : Int32))), .unset, .unset, .unset, .unset] []))) (fun t k => XS.icmpNo X0.here hx rfl (hb hby at_39) rfl (teq hc29).2 k) ?_
        obtain ⟨T30, X30, e30, st30⟩ := getS2 X0 hx hZ hown (host := "") (Or.inl (hw _ (List.mem_of_getElem? (i := 18) rfl))) Via.refl e0 S_EQUAL (g := (mkF m 42 #[.val (.int p0), .val (.int p1), .val (.int ((p0 &&& (2147483647 : Int32)) % (6 : Int32))), .unset, .unset, .unset, .unset] [])) rfl (hb hby at_42)
        refine own_go (A' := (T30.setTop (mkF m 91 #[.val (.int p0), .val (.int p1), .val (.int ((p0 &&& (2147483647 : Int32)) % (6 : Int32))), .val (.ref w_EQUAL), .val (.int (2 : Int32)), .unset, .unset] [(.int p1)]))) (fun t k => ?_) ?_
        · show Steps p.tables e below (s₁.setTop (mkF m 42 #[.val (.int p0), .val (.int p1), .val (.int ((p0 &&& (2147483647 : Int32)) % (6 : Int32))), .unset, .unset, .unset, .unset] [])) _
          refine st30 _ ?_
          show Steps p.tables e below (T30.setTop (mkF m 45 #[.val (.int p0), .val (.int p1), .val (.int ((p0 &&& (2147483647 : Int32)) % (6 : Int32))), .unset, .unset, .unset, .unset] [(.ref w_EQUAL)])) _
          refine XS.astoreN X30.here hx rfl (hb hby at_45) rfl rfl (l' := #[.val (.int p0), .val (.int p1), .val (.int ((p0 &&& (2147483647 : Int32)) % (6 : Int32))), .val (.ref w_EQUAL), .unset, .unset, .unset]) rfl ?_
          show Steps p.tables e below (T30.setTop (mkF m 46 #[.val (.int p0), .val (.int p1), .val (.int ((p0 &&& (2147483647 : Int32)) % (6 : Int32))), .val (.ref w_EQUAL), .unset, .unset, .unset] [])) _
          refine XS.iconst X30.here hx rfl (hb hby at_46) ?_
          show Steps p.tables e below (T30.setTop (mkF m 47 #[.val (.int p0), .val (.int p1), .val (.int ((p0 &&& (2147483647 : Int32)) % (6 : Int32))), .val (.ref w_EQUAL), .unset, .unset, .unset] [(.int (2 : Int32))])) _
          refine XS.istore X30.here hx rfl (hb hby at_47) rfl (l' := #[.val (.int p0), .val (.int p1), .val (.int ((p0 &&& (2147483647 : Int32)) % (6 : Int32))), .val (.ref w_EQUAL), .val (.int (2 : Int32)), .unset, .unset]) rfl ?_
          show Steps p.tables e below (T30.setTop (mkF m 49 #[.val (.int p0), .val (.int p1), .val (.int ((p0 &&& (2147483647 : Int32)) % (6 : Int32))), .val (.ref w_EQUAL), .val (.int (2 : Int32)), .unset, .unset] [])) _
          refine XS.goto X30.here hx rfl (pc0 := 49) (pc' := 90) rfl (hb hby at_49) (by decide) (by decide) ?_
          show Steps p.tables e below (T30.setTop (mkF m 90 #[.val (.int p0), .val (.int p1), .val (.int ((p0 &&& (2147483647 : Int32)) % (6 : Int32))), .val (.ref w_EQUAL), .val (.int (2 : Int32)), .unset, .unset] [])) _
          refine XS.iloadN X30.here hx rfl (hb hby at_90) rfl ?_
          exact k
        by_cases hc31 : p1 < (0 : Int32)
        · -- hc31: yes
          refine own_go (A' := (T30.setTop (mkF m 94 #[.val (.int p0), .val (.int p1), .val (.int ((p0 &&& (2147483647 : Int32)) % (6 : Int32))), .val (.ref w_EQUAL), .val (.int (2 : Int32)), .unset, .unset] []))) (fun t k => XS.ifNo X30.here hx rfl (hb hby at_91) rfl ((if0 _ _).trans (tlt hc31).2.1) k) ?_
          refine own_go (A' := (T30.setTop (mkF m 118 #[.val (.int p0), .val (.int p1), .val (.int ((p0 &&& (2147483647 : Int32)) % (6 : Int32))), .val (.ref w_EQUAL), .val (.int (2 : Int32)), .val (.int (1 : Int32)), .unset] [(.int ((2 : Int32) &&& (1 : Int32)))]))) (fun t k => ?_) ?_
          · show Steps p.tables e below (T30.setTop (mkF m 94 #[.val (.int p0), .val (.int p1), .val (.int ((p0 &&& (2147483647 : Int32)) % (6 : Int32))), .val (.ref w_EQUAL), .val (.int (2 : Int32)), .unset, .unset] [])) _
            refine XS.iconst X30.here hx rfl (hb hby at_94) ?_
            show Steps p.tables e below (T30.setTop (mkF m 95 #[.val (.int p0), .val (.int p1), .val (.int ((p0 &&& (2147483647 : Int32)) % (6 : Int32))), .val (.ref w_EQUAL), .val (.int (2 : Int32)), .unset, .unset] [(.int (1 : Int32))])) _
            refine XS.istore X30.here hx rfl (hb hby at_95) rfl (l' := #[.val (.int p0), .val (.int p1), .val (.int ((p0 &&& (2147483647 : Int32)) % (6 : Int32))), .val (.ref w_EQUAL), .val (.int (2 : Int32)), .val (.int (1 : Int32)), .unset]) rfl ?_
            show Steps p.tables e below (T30.setTop (mkF m 97 #[.val (.int p0), .val (.int p1), .val (.int ((p0 &&& (2147483647 : Int32)) % (6 : Int32))), .val (.ref w_EQUAL), .val (.int (2 : Int32)), .val (.int (1 : Int32)), .unset] [])) _
            refine XS.goto X30.here hx rfl (pc0 := 97) (pc' := 113) rfl (hb hby at_97) (by decide) (by decide) ?_
            show Steps p.tables e below (T30.setTop (mkF m 113 #[.val (.int p0), .val (.int p1), .val (.int ((p0 &&& (2147483647 : Int32)) % (6 : Int32))), .val (.ref w_EQUAL), .val (.int (2 : Int32)), .val (.int (1 : Int32)), .unset] [])) _
            refine XS.iload X30.here hx rfl (hb hby at_113) rfl ?_
            show Steps p.tables e below (T30.setTop (mkF m 115 #[.val (.int p0), .val (.int p1), .val (.int ((p0 &&& (2147483647 : Int32)) % (6 : Int32))), .val (.ref w_EQUAL), .val (.int (2 : Int32)), .val (.int (1 : Int32)), .unset] [(.int (2 : Int32))])) _
            refine XS.iload X30.here hx rfl (hb hby at_115) rfl ?_
            show Steps p.tables e below (T30.setTop (mkF m 117 #[.val (.int p0), .val (.int p1), .val (.int ((p0 &&& (2147483647 : Int32)) % (6 : Int32))), .val (.ref w_EQUAL), .val (.int (2 : Int32)), .val (.int (1 : Int32)), .unset] [(.int (1 : Int32)), (.int (2 : Int32))])) _
            refine XS.iand X30.here hx rfl (hb hby at_117) rfl ?_
            exact k
          refine own_go (A' := (T30.setTop (mkF m 125 #[.val (.int p0), .val (.int p1), .val (.int ((p0 &&& (2147483647 : Int32)) % (6 : Int32))), .val (.ref w_EQUAL), .val (.int (2 : Int32)), .val (.int (1 : Int32)), .unset] []))) (fun t k => XS.ifYes X30.here hx rfl (pc0 := 118) (pc' := 125) rfl (hb hby at_118) rfl ((if0 _ _).trans (teq (by decide : ((2 : Int32) &&& (1 : Int32)) = (0 : Int32))).1) (by decide) (by decide) k) ?_
          obtain ⟨cq32, kq32, q32a, q32b, q32c⟩ := isOf hZ e30 E_EQUAL
          obtain ⟨_, _, ⟨T32, L32, k32, n32⟩, -, X32, ⟨Lc32, hQ32, l32, y32, z32⟩, st32⟩ := X30.virtualBack hx (y := (⟨"com/example/pathwarden/pathwarden/flow/Relation", "holds", "(I)Z"⟩ : MethodName)) (z := (⟨"com/example/pathwarden/pathwarden/flow/Relation", "holds", "(I)Z"⟩ : MethodName)) hown (mvT hZ (hw _ (List.mem_of_getElem? (i := 4) rfl))) (mvT hZ (hw _ (List.mem_of_getElem? (i := 5) rfl))) (notFace_of_selects (args := #[]) (mvT hZ (hw _ (List.mem_of_getElem? (i := 7) rfl)))) (mvT hZ (hw _ (List.mem_of_getElem? (i := 7) rfl))) (mvT hZ (hw _ (List.mem_of_getElem? (i := 6) rfl))) (by decide) (backOf (W := 0) (rm1 l Z a0 hw [] w_EQUAL p1 (2 : Int32) h0 n0 Z0 O_EQUAL_ordinal E_EQUAL (by decide)) hZ (hw _ (List.mem_of_getElem? (i := 8) rfl)) (hw _ (List.mem_of_getElem? (i := 2) rfl)) (by decide) (by decide)) q32a q32c (g := (mkF m 130 #[.val (.int p0), .val (.int p1), .val (.int ((p0 &&& (2147483647 : Int32)) % (6 : Int32))), .val (.ref w_EQUAL), .val (.int (2 : Int32)), .val (.int (1 : Int32)), .val (.int (0 : Int32))] [(.int p1), (.ref w_EQUAL)])) rfl (by rw [hml]; rfl) (Steps.refl _) (argsL := [(.int p1)]) (rest := []) (lenOf pd_1 rfl) rfl (by show 2 * 0 + _ ≤ _; exact Nat.le_of_eq rfl) (hb hby at_130) (fun _ _ => ⟨rfl, e30, (by decide : 0 + 0 ≤ _), (by decide : 0 + 0 ≤ _)⟩)
          dsimp only [Pt.U, Pt.locs, Pt.cells, Pt.slots] at X32 l32 y32 z32 st32 hQ32
          subst l32 y32 z32
          obtain ⟨rfl, N32q, e32⟩ := hQ32
          have N32 := Fr.app N0 N32q
          refine own_go (A' := (T32.setTop (mkF m 135 #[.val (.int p0), .val (.int p1), .val (.int ((p0 &&& (2147483647 : Int32)) % (6 : Int32))), .val (.ref w_EQUAL), .val (.int (2 : Int32)), .val (.int (1 : Int32)), .val (.int (0 : Int32))] [(.int (0 : Int32)), (.int (hold (2 : Int32) p1))]))) (fun t k => ?_) ?_
          · show Steps p.tables e below (T30.setTop (mkF m 125 #[.val (.int p0), .val (.int p1), .val (.int ((p0 &&& (2147483647 : Int32)) % (6 : Int32))), .val (.ref w_EQUAL), .val (.int (2 : Int32)), .val (.int (1 : Int32)), .unset] [])) _
            refine XS.iconst X30.here hx rfl (hb hby at_125) ?_
            show Steps p.tables e below (T30.setTop (mkF m 126 #[.val (.int p0), .val (.int p1), .val (.int ((p0 &&& (2147483647 : Int32)) % (6 : Int32))), .val (.ref w_EQUAL), .val (.int (2 : Int32)), .val (.int (1 : Int32)), .unset] [(.int (0 : Int32))])) _
            refine XS.istore X30.here hx rfl (hb hby at_126) rfl (l' := #[.val (.int p0), .val (.int p1), .val (.int ((p0 &&& (2147483647 : Int32)) % (6 : Int32))), .val (.ref w_EQUAL), .val (.int (2 : Int32)), .val (.int (1 : Int32)), .val (.int (0 : Int32))]) rfl ?_
            show Steps p.tables e below (T30.setTop (mkF m 128 #[.val (.int p0), .val (.int p1), .val (.int ((p0 &&& (2147483647 : Int32)) % (6 : Int32))), .val (.ref w_EQUAL), .val (.int (2 : Int32)), .val (.int (1 : Int32)), .val (.int (0 : Int32))] [])) _
            refine XS.aloadN X30.here hx rfl (hb hby at_128) rfl rfl ?_
            show Steps p.tables e below (T30.setTop (mkF m 129 #[.val (.int p0), .val (.int p1), .val (.int ((p0 &&& (2147483647 : Int32)) % (6 : Int32))), .val (.ref w_EQUAL), .val (.int (2 : Int32)), .val (.int (1 : Int32)), .val (.int (0 : Int32))] [(.ref w_EQUAL)])) _
            refine XS.iloadN X30.here hx rfl (hb hby at_129) rfl ?_
            show Steps p.tables e below (T30.setTop (mkF m 130 #[.val (.int p0), .val (.int p1), .val (.int ((p0 &&& (2147483647 : Int32)) % (6 : Int32))), .val (.ref w_EQUAL), .val (.int (2 : Int32)), .val (.int (1 : Int32)), .val (.int (0 : Int32))] [(.int p1), (.ref w_EQUAL)])) _
            refine st32.trans ?_
            show Steps p.tables e below (T32.setTop (mkF m 133 #[.val (.int p0), .val (.int p1), .val (.int ((p0 &&& (2147483647 : Int32)) % (6 : Int32))), .val (.ref w_EQUAL), .val (.int (2 : Int32)), .val (.int (1 : Int32)), .val (.int (0 : Int32))] [(.int (hold (2 : Int32) p1))])) _
            refine XS.iload X32.here hx rfl (hb hby at_133) rfl ?_
            exact k
          refine own_go (A' := (T32.setTop (mkF m 138 #[.val (.int p0), .val (.int p1), .val (.int ((p0 &&& (2147483647 : Int32)) % (6 : Int32))), .val (.ref w_EQUAL), .val (.int (2 : Int32)), .val (.int (1 : Int32)), .val (.int (0 : Int32))] []))) (fun t k => XS.icmpNo X32.here hx rfl (hb hby at_135) rfl (teq (by simp [hold, hc31, (own_hA hc31).1, (own_hA hc31).2])).2 k) ?_
          refine own_go (A' := (T32.setTop (mkF m 143 #[.val (.int p0), .val (.int p1), .val (.int ((p0 &&& (2147483647 : Int32)) % (6 : Int32))), .val (.ref w_EQUAL), .val (.int (2 : Int32)), .val (.int (1 : Int32)), .val (.int (0 : Int32))] [(.int (1 : Int32))]))) (fun t k => ?_) ?_
          · show Steps p.tables e below (T32.setTop (mkF m 138 #[.val (.int p0), .val (.int p1), .val (.int ((p0 &&& (2147483647 : Int32)) % (6 : Int32))), .val (.ref w_EQUAL), .val (.int (2 : Int32)), .val (.int (1 : Int32)), .val (.int (0 : Int32))] [])) _
            refine XS.iconst X32.here hx rfl (hb hby at_138) ?_
            show Steps p.tables e below (T32.setTop (mkF m 139 #[.val (.int p0), .val (.int p1), .val (.int ((p0 &&& (2147483647 : Int32)) % (6 : Int32))), .val (.ref w_EQUAL), .val (.int (2 : Int32)), .val (.int (1 : Int32)), .val (.int (0 : Int32))] [(.int (1 : Int32))])) _
            refine XS.goto X32.here hx rfl (pc0 := 139) (pc' := 143) rfl (hb hby at_139) (by decide) (by decide) ?_
            exact k
          obtain ⟨fs, hr, hrun, hended, hW, hsame⟩ := X32.leave (v := some (.int (1 : Int32))) (fun h => by rw [Bd.returns] at h; cases h)
          refine ⟨_, _, ?_, hrun, hended, _, _, rfl, ?_, ⟨_, rfl⟩, hW, hsame.mono (by decide) (by decide)⟩
          · show Steps p.tables e below (T32.setTop (mkF m 143 #[.val (.int p0), .val (.int p1), .val (.int ((p0 &&& (2147483647 : Int32)) % (6 : Int32))), .val (.ref w_EQUAL), .val (.int (2 : Int32)), .val (.int (1 : Int32)), .val (.int (0 : Int32))] [(.int (1 : Int32))])) _
            exact retN X32 hx (t := .boolean) Bd.returns (by simp) (hb hby at_143) hr
          · show Q0 Z p0 p1 w_LESS w_EQUAL w_GREATER_OR_EQUAL w_LESS_OR_EQUAL w_GREATER w_NOT_EQUAL h0 n0 _ _ _
            exact ⟨rfl, N32⟩
        · -- hc31: no
          refine own_go (A' := (T30.setTop (mkF m 100 #[.val (.int p0), .val (.int p1), .val (.int ((p0 &&& (2147483647 : Int32)) % (6 : Int32))), .val (.ref w_EQUAL), .val (.int (2 : Int32)), .unset, .unset] []))) (fun t k => XS.ifYes X30.here hx rfl (pc0 := 91) (pc' := 100) rfl (hb hby at_91) rfl ((if0 _ _).trans (flt hc31).2.1) (by decide) (by decide) k) ?_
          refine own_go (A' := (T30.setTop (mkF m 101 #[.val (.int p0), .val (.int p1), .val (.int ((p0 &&& (2147483647 : Int32)) % (6 : Int32))), .val (.ref w_EQUAL), .val (.int (2 : Int32)), .unset, .unset] [(.int p1)]))) (fun t k => ?_) ?_
          · show Steps p.tables e below (T30.setTop (mkF m 100 #[.val (.int p0), .val (.int p1), .val (.int ((p0 &&& (2147483647 : Int32)) % (6 : Int32))), .val (.ref w_EQUAL), .val (.int (2 : Int32)), .unset, .unset] [])) _
            refine XS.iloadN X30.here hx rfl (hb hby at_100) rfl ?_
            exact k
          by_cases hc33 : p1 = (0 : Int32)
          · -- hc33: yes
            refine own_go (A' := (T30.setTop (mkF m 104 #[.val (.int p0), .val (.int p1), .val (.int ((p0 &&& (2147483647 : Int32)) % (6 : Int32))), .val (.ref w_EQUAL), .val (.int (2 : Int32)), .unset, .unset] []))) (fun t k => XS.ifNo X30.here hx rfl (hb hby at_101) rfl ((if0 _ _).trans (teq hc33).2) k) ?_
            refine own_go (A' := (T30.setTop (mkF m 118 #[.val (.int p0), .val (.int p1), .val (.int ((p0 &&& (2147483647 : Int32)) % (6 : Int32))), .val (.ref w_EQUAL), .val (.int (2 : Int32)), .val (.int (2 : Int32)), .unset] [(.int ((2 : Int32) &&& (2 : Int32)))]))) (fun t k => ?_) ?_
            · show Steps p.tables e below (T30.setTop (mkF m 104 #[.val (.int p0), .val (.int p1), .val (.int ((p0 &&& (2147483647 : Int32)) % (6 : Int32))), .val (.ref w_EQUAL), .val (.int (2 : Int32)), .unset, .unset] [])) _
              refine XS.iconst X30.here hx rfl (hb hby at_104) ?_
              show Steps p.tables e below (T30.setTop (mkF m 105 #[.val (.int p0), .val (.int p1), .val (.int ((p0 &&& (2147483647 : Int32)) % (6 : Int32))), .val (.ref w_EQUAL), .val (.int (2 : Int32)), .unset, .unset] [(.int (2 : Int32))])) _
              refine XS.istore X30.here hx rfl (hb hby at_105) rfl (l' := #[.val (.int p0), .val (.int p1), .val (.int ((p0 &&& (2147483647 : Int32)) % (6 : Int32))), .val (.ref w_EQUAL), .val (.int (2 : Int32)), .val (.int (2 : Int32)), .unset]) rfl ?_
              show Steps p.tables e below (T30.setTop (mkF m 107 #[.val (.int p0), .val (.int p1), .val (.int ((p0 &&& (2147483647 : Int32)) % (6 : Int32))), .val (.ref w_EQUAL), .val (.int (2 : Int32)), .val (.int (2 : Int32)), .unset] [])) _
              refine XS.goto X30.here hx rfl (pc0 := 107) (pc' := 113) rfl (hb hby at_107) (by decide) (by decide) ?_
              show Steps p.tables e below (T30.setTop (mkF m 113 #[.val (.int p0), .val (.int p1), .val (.int ((p0 &&& (2147483647 : Int32)) % (6 : Int32))), .val (.ref w_EQUAL), .val (.int (2 : Int32)), .val (.int (2 : Int32)), .unset] [])) _
              refine XS.iload X30.here hx rfl (hb hby at_113) rfl ?_
              show Steps p.tables e below (T30.setTop (mkF m 115 #[.val (.int p0), .val (.int p1), .val (.int ((p0 &&& (2147483647 : Int32)) % (6 : Int32))), .val (.ref w_EQUAL), .val (.int (2 : Int32)), .val (.int (2 : Int32)), .unset] [(.int (2 : Int32))])) _
              refine XS.iload X30.here hx rfl (hb hby at_115) rfl ?_
              show Steps p.tables e below (T30.setTop (mkF m 117 #[.val (.int p0), .val (.int p1), .val (.int ((p0 &&& (2147483647 : Int32)) % (6 : Int32))), .val (.ref w_EQUAL), .val (.int (2 : Int32)), .val (.int (2 : Int32)), .unset] [(.int (2 : Int32)), (.int (2 : Int32))])) _
              refine XS.iand X30.here hx rfl (hb hby at_117) rfl ?_
              exact k
            refine own_go (A' := (T30.setTop (mkF m 121 #[.val (.int p0), .val (.int p1), .val (.int ((p0 &&& (2147483647 : Int32)) % (6 : Int32))), .val (.ref w_EQUAL), .val (.int (2 : Int32)), .val (.int (2 : Int32)), .unset] []))) (fun t k => XS.ifNo X30.here hx rfl (hb hby at_118) rfl ((if0 _ _).trans (feq (by decide : ¬ (((2 : Int32) &&& (2 : Int32)) = (0 : Int32)))).1) k) ?_
            obtain ⟨cq34, kq34, q34a, q34b, q34c⟩ := isOf hZ e30 E_EQUAL
            obtain ⟨_, _, ⟨T34, L34, k34, n34⟩, -, X34, ⟨Lc34, hQ34, l34, y34, z34⟩, st34⟩ := X30.virtualBack hx (y := (⟨"com/example/pathwarden/pathwarden/flow/Relation", "holds", "(I)Z"⟩ : MethodName)) (z := (⟨"com/example/pathwarden/pathwarden/flow/Relation", "holds", "(I)Z"⟩ : MethodName)) hown (mvT hZ (hw _ (List.mem_of_getElem? (i := 4) rfl))) (mvT hZ (hw _ (List.mem_of_getElem? (i := 5) rfl))) (notFace_of_selects (args := #[]) (mvT hZ (hw _ (List.mem_of_getElem? (i := 7) rfl)))) (mvT hZ (hw _ (List.mem_of_getElem? (i := 7) rfl))) (mvT hZ (hw _ (List.mem_of_getElem? (i := 6) rfl))) (by decide) (backOf (W := 0) (rm1 l Z a0 hw [] w_EQUAL p1 (2 : Int32) h0 n0 Z0 O_EQUAL_ordinal E_EQUAL (by decide)) hZ (hw _ (List.mem_of_getElem? (i := 8) rfl)) (hw _ (List.mem_of_getElem? (i := 2) rfl)) (by decide) (by decide)) q34a q34c (g := (mkF m 130 #[.val (.int p0), .val (.int p1), .val (.int ((p0 &&& (2147483647 : Int32)) % (6 : Int32))), .val (.ref w_EQUAL), .val (.int (2 : Int32)), .val (.int (2 : Int32)), .val (.int (1 : Int32))] [(.int p1), (.ref w_EQUAL)])) rfl (by rw [hml]; rfl) (Steps.refl _) (argsL := [(.int p1)]) (rest := []) (lenOf pd_1 rfl) rfl (by show 2 * 0 + _ ≤ _; exact Nat.le_of_eq rfl) (hb hby at_130) (fun _ _ => ⟨rfl, e30, (by decide : 0 + 0 ≤ _), (by decide : 0 + 0 ≤ _)⟩)
            dsimp only [Pt.U, Pt.locs, Pt.cells, Pt.slots] at X34 l34 y34 z34 st34 hQ34
            subst l34 y34 z34
            obtain ⟨rfl, N34q, e34⟩ := hQ34
            have N34 := Fr.app N0 N34q
            refine own_go (A' := (T34.setTop (mkF m 135 #[.val (.int p0), .val (.int p1), .val (.int ((p0 &&& (2147483647 : Int32)) % (6 : Int32))), .val (.ref w_EQUAL), .val (.int (2 : Int32)), .val (.int (2 : Int32)), .val (.int (1 : Int32))] [(.int (1 : Int32)), (.int (hold (2 : Int32) p1))]))) (fun t k => ?_) ?_
            · show Steps p.tables e below (T30.setTop (mkF m 121 #[.val (.int p0), .val (.int p1), .val (.int ((p0 &&& (2147483647 : Int32)) % (6 : Int32))), .val (.ref w_EQUAL), .val (.int (2 : Int32)), .val (.int (2 : Int32)), .unset] [])) _
              refine XS.iconst X30.here hx rfl (hb hby at_121) ?_
              show Steps p.tables e below (T30.setTop (mkF m 122 #[.val (.int p0), .val (.int p1), .val (.int ((p0 &&& (2147483647 : Int32)) % (6 : Int32))), .val (.ref w_EQUAL), .val (.int (2 : Int32)), .val (.int (2 : Int32)), .unset] [(.int (1 : Int32))])) _
              refine XS.goto X30.here hx rfl (pc0 := 122) (pc' := 126) rfl (hb hby at_122) (by decide) (by decide) ?_
              show Steps p.tables e below (T30.setTop (mkF m 126 #[.val (.int p0), .val (.int p1), .val (.int ((p0 &&& (2147483647 : Int32)) % (6 : Int32))), .val (.ref w_EQUAL), .val (.int (2 : Int32)), .val (.int (2 : Int32)), .unset] [(.int (1 : Int32))])) _
              refine XS.istore X30.here hx rfl (hb hby at_126) rfl (l' := #[.val (.int p0), .val (.int p1), .val (.int ((p0 &&& (2147483647 : Int32)) % (6 : Int32))), .val (.ref w_EQUAL), .val (.int (2 : Int32)), .val (.int (2 : Int32)), .val (.int (1 : Int32))]) rfl ?_
              show Steps p.tables e below (T30.setTop (mkF m 128 #[.val (.int p0), .val (.int p1), .val (.int ((p0 &&& (2147483647 : Int32)) % (6 : Int32))), .val (.ref w_EQUAL), .val (.int (2 : Int32)), .val (.int (2 : Int32)), .val (.int (1 : Int32))] [])) _
              refine XS.aloadN X30.here hx rfl (hb hby at_128) rfl rfl ?_
              show Steps p.tables e below (T30.setTop (mkF m 129 #[.val (.int p0), .val (.int p1), .val (.int ((p0 &&& (2147483647 : Int32)) % (6 : Int32))), .val (.ref w_EQUAL), .val (.int (2 : Int32)), .val (.int (2 : Int32)), .val (.int (1 : Int32))] [(.ref w_EQUAL)])) _
              refine XS.iloadN X30.here hx rfl (hb hby at_129) rfl ?_
              show Steps p.tables e below (T30.setTop (mkF m 130 #[.val (.int p0), .val (.int p1), .val (.int ((p0 &&& (2147483647 : Int32)) % (6 : Int32))), .val (.ref w_EQUAL), .val (.int (2 : Int32)), .val (.int (2 : Int32)), .val (.int (1 : Int32))] [(.int p1), (.ref w_EQUAL)])) _
              refine st34.trans ?_
              show Steps p.tables e below (T34.setTop (mkF m 133 #[.val (.int p0), .val (.int p1), .val (.int ((p0 &&& (2147483647 : Int32)) % (6 : Int32))), .val (.ref w_EQUAL), .val (.int (2 : Int32)), .val (.int (2 : Int32)), .val (.int (1 : Int32))] [(.int (hold (2 : Int32) p1))])) _
              refine XS.iload X34.here hx rfl (hb hby at_133) rfl ?_
              exact k
            refine own_go (A' := (T34.setTop (mkF m 138 #[.val (.int p0), .val (.int p1), .val (.int ((p0 &&& (2147483647 : Int32)) % (6 : Int32))), .val (.ref w_EQUAL), .val (.int (2 : Int32)), .val (.int (2 : Int32)), .val (.int (1 : Int32))] []))) (fun t k => XS.icmpNo X34.here hx rfl (hb hby at_135) rfl (teq (by simp [hold, hc33])).2 k) ?_
            refine own_go (A' := (T34.setTop (mkF m 143 #[.val (.int p0), .val (.int p1), .val (.int ((p0 &&& (2147483647 : Int32)) % (6 : Int32))), .val (.ref w_EQUAL), .val (.int (2 : Int32)), .val (.int (2 : Int32)), .val (.int (1 : Int32))] [(.int (1 : Int32))]))) (fun t k => ?_) ?_
            · show Steps p.tables e below (T34.setTop (mkF m 138 #[.val (.int p0), .val (.int p1), .val (.int ((p0 &&& (2147483647 : Int32)) % (6 : Int32))), .val (.ref w_EQUAL), .val (.int (2 : Int32)), .val (.int (2 : Int32)), .val (.int (1 : Int32))] [])) _
              refine XS.iconst X34.here hx rfl (hb hby at_138) ?_
              show Steps p.tables e below (T34.setTop (mkF m 139 #[.val (.int p0), .val (.int p1), .val (.int ((p0 &&& (2147483647 : Int32)) % (6 : Int32))), .val (.ref w_EQUAL), .val (.int (2 : Int32)), .val (.int (2 : Int32)), .val (.int (1 : Int32))] [(.int (1 : Int32))])) _
              refine XS.goto X34.here hx rfl (pc0 := 139) (pc' := 143) rfl (hb hby at_139) (by decide) (by decide) ?_
              exact k
            obtain ⟨fs, hr, hrun, hended, hW, hsame⟩ := X34.leave (v := some (.int (1 : Int32))) (fun h => by rw [Bd.returns] at h; cases h)
            refine ⟨_, _, ?_, hrun, hended, _, _, rfl, ?_, ⟨_, rfl⟩, hW, hsame.mono (by decide) (by decide)⟩
            · show Steps p.tables e below (T34.setTop (mkF m 143 #[.val (.int p0), .val (.int p1), .val (.int ((p0 &&& (2147483647 : Int32)) % (6 : Int32))), .val (.ref w_EQUAL), .val (.int (2 : Int32)), .val (.int (2 : Int32)), .val (.int (1 : Int32))] [(.int (1 : Int32))])) _
              exact retN X34 hx (t := .boolean) Bd.returns (by simp) (hb hby at_143) hr
            · show Q0 Z p0 p1 w_LESS w_EQUAL w_GREATER_OR_EQUAL w_LESS_OR_EQUAL w_GREATER w_NOT_EQUAL h0 n0 _ _ _
              exact ⟨rfl, N34⟩
          · -- hc33: no
            refine own_go (A' := (T30.setTop (mkF m 110 #[.val (.int p0), .val (.int p1), .val (.int ((p0 &&& (2147483647 : Int32)) % (6 : Int32))), .val (.ref w_EQUAL), .val (.int (2 : Int32)), .unset, .unset] []))) (fun t k => XS.ifYes X30.here hx rfl (pc0 := 101) (pc' := 110) rfl (hb hby at_101) rfl ((if0 _ _).trans (feq hc33).2) (by decide) (by decide) k) ?_
            refine own_go (A' := (T30.setTop (mkF m 118 #[.val (.int p0), .val (.int p1), .val (.int ((p0 &&& (2147483647 : Int32)) % (6 : Int32))), .val (.ref w_EQUAL), .val (.int (2 : Int32)), .val (.int (4 : Int32)), .unset] [(.int ((2 : Int32) &&& (4 : Int32)))]))) (fun t k => ?_) ?_
            · show Steps p.tables e below (T30.setTop (mkF m 110 #[.val (.int p0), .val (.int p1), .val (.int ((p0 &&& (2147483647 : Int32)) % (6 : Int32))), .val (.ref w_EQUAL), .val (.int (2 : Int32)), .unset, .unset] [])) _
              refine XS.iconst X30.here hx rfl (hb hby at_110) ?_
              show Steps p.tables e below (T30.setTop (mkF m 111 #[.val (.int p0), .val (.int p1), .val (.int ((p0 &&& (2147483647 : Int32)) % (6 : Int32))), .val (.ref w_EQUAL), .val (.int (2 : Int32)), .unset, .unset] [(.int (4 : Int32))])) _
              refine XS.istore X30.here hx rfl (hb hby at_111) rfl (l' := #[.val (.int p0), .val (.int p1), .val (.int ((p0 &&& (2147483647 : Int32)) % (6 : Int32))), .val (.ref w_EQUAL), .val (.int (2 : Int32)), .val (.int (4 : Int32)), .unset]) rfl ?_
              show Steps p.tables e below (T30.setTop (mkF m 113 #[.val (.int p0), .val (.int p1), .val (.int ((p0 &&& (2147483647 : Int32)) % (6 : Int32))), .val (.ref w_EQUAL), .val (.int (2 : Int32)), .val (.int (4 : Int32)), .unset] [])) _
              refine XS.iload X30.here hx rfl (hb hby at_113) rfl ?_
              show Steps p.tables e below (T30.setTop (mkF m 115 #[.val (.int p0), .val (.int p1), .val (.int ((p0 &&& (2147483647 : Int32)) % (6 : Int32))), .val (.ref w_EQUAL), .val (.int (2 : Int32)), .val (.int (4 : Int32)), .unset] [(.int (2 : Int32))])) _
              refine XS.iload X30.here hx rfl (hb hby at_115) rfl ?_
              show Steps p.tables e below (T30.setTop (mkF m 117 #[.val (.int p0), .val (.int p1), .val (.int ((p0 &&& (2147483647 : Int32)) % (6 : Int32))), .val (.ref w_EQUAL), .val (.int (2 : Int32)), .val (.int (4 : Int32)), .unset] [(.int (4 : Int32)), (.int (2 : Int32))])) _
              refine XS.iand X30.here hx rfl (hb hby at_117) rfl ?_
              exact k
            refine own_go (A' := (T30.setTop (mkF m 125 #[.val (.int p0), .val (.int p1), .val (.int ((p0 &&& (2147483647 : Int32)) % (6 : Int32))), .val (.ref w_EQUAL), .val (.int (2 : Int32)), .val (.int (4 : Int32)), .unset] []))) (fun t k => XS.ifYes X30.here hx rfl (pc0 := 118) (pc' := 125) rfl (hb hby at_118) rfl ((if0 _ _).trans (teq (by decide : ((2 : Int32) &&& (4 : Int32)) = (0 : Int32))).1) (by decide) (by decide) k) ?_
            obtain ⟨cq35, kq35, q35a, q35b, q35c⟩ := isOf hZ e30 E_EQUAL
            obtain ⟨_, _, ⟨T35, L35, k35, n35⟩, -, X35, ⟨Lc35, hQ35, l35, y35, z35⟩, st35⟩ := X30.virtualBack hx (y := (⟨"com/example/pathwarden/pathwarden/flow/Relation", "holds", "(I)Z"⟩ : MethodName)) (z := (⟨"com/example/pathwarden/pathwarden/flow/Relation", "holds", "(I)Z"⟩ : MethodName)) hown (mvT hZ (hw _ (List.mem_of_getElem? (i := 4) rfl))) (mvT hZ (hw _ (List.mem_of_getElem? (i := 5) rfl))) (notFace_of_selects (args := #[]) (mvT hZ (hw _ (List.mem_of_getElem? (i := 7) rfl)))) (mvT hZ (hw _ (List.mem_of_getElem? (i := 7) rfl))) (mvT hZ (hw _ (List.mem_of_getElem? (i := 6) rfl))) (by decide) (backOf (W := 0) (rm1 l Z a0 hw [] w_EQUAL p1 (2 : Int32) h0 n0 Z0 O_EQUAL_ordinal E_EQUAL (by decide)) hZ (hw _ (List.mem_of_getElem? (i := 8) rfl)) (hw _ (List.mem_of_getElem? (i := 2) rfl)) (by decide) (by decide)) q35a q35c (g := (mkF m 130 #[.val (.int p0), .val (.int p1), .val (.int ((p0 &&& (2147483647 : Int32)) % (6 : Int32))), .val (.ref w_EQUAL), .val (.int (2 : Int32)), .val (.int (4 : Int32)), .val (.int (0 : Int32))] [(.int p1), (.ref w_EQUAL)])) rfl (by rw [hml]; rfl) (Steps.refl _) (argsL := [(.int p1)]) (rest := []) (lenOf pd_1 rfl) rfl (by show 2 * 0 + _ ≤ _; exact Nat.le_of_eq rfl) (hb hby at_130) (fun _ _ => ⟨rfl, e30, (by decide : 0 + 0 ≤ _), (by decide : 0 + 0 ≤ _)⟩)
            dsimp only [Pt.U, Pt.locs, Pt.cells, Pt.slots] at X35 l35 y35 z35 st35 hQ35
            subst l35 y35 z35
            obtain ⟨rfl, N35q, e35⟩ := hQ35
            have N35 := Fr.app N0 N35q
            refine own_go (A' := (T35.setTop (mkF m 135 #[.val (.int p0), .val (.int p1), .val (.int ((p0 &&& (2147483647 : Int32)) % (6 : Int32))), .val (.ref w_EQUAL), .val (.int (2 : Int32)), .val (.int (4 : Int32)), .val (.int (0 : Int32))] [(.int (0 : Int32)), (.int (hold (2 : Int32) p1))]))) (fun t k => ?_) ?_
            · show Steps p.tables e below (T30.setTop (mkF m 125 #[.val (.int p0), .val (.int p1), .val (.int ((p0 &&& (2147483647 : Int32)) % (6 : Int32))), .val (.ref w_EQUAL), .val (.int (2 : Int32)), .val (.int (4 : Int32)), .unset] [])) _
              refine XS.iconst X30.here hx rfl (hb hby at_125) ?_
              show Steps p.tables e below (T30.setTop (mkF m 126 #[.val (.int p0), .val (.int p1), .val (.int ((p0 &&& (2147483647 : Int32)) % (6 : Int32))), .val (.ref w_EQUAL), .val (.int (2 : Int32)), .val (.int (4 : Int32)), .unset] [(.int (0 : Int32))])) _
              refine XS.istore X30.here hx rfl (hb hby at_126) rfl (l' := #[.val (.int p0), .val (.int p1), .val (.int ((p0 &&& (2147483647 : Int32)) % (6 : Int32))), .val (.ref w_EQUAL), .val (.int (2 : Int32)), .val (.int (4 : Int32)), .val (.int (0 : Int32))]) rfl ?_
              show Steps p.tables e below (T30.setTop (mkF m 128 #[.val (.int p0), .val (.int p1), .val (.int ((p0 &&& (2147483647 : Int32)) % (6 : Int32))), .val (.ref w_EQUAL), .val (.int (2 : Int32)), .val (.int (4 : Int32)), .val (.int (0 : Int32))] [])) _
              refine XS.aloadN X30.here hx rfl (hb hby at_128) rfl rfl ?_
              show Steps p.tables e below (T30.setTop (mkF m 129 #[.val (.int p0), .val (.int p1), .val (.int ((p0 &&& (2147483647 : Int32)) % (6 : Int32))), .val (.ref w_EQUAL), .val (.int (2 : Int32)), .val (.int (4 : Int32)), .val (.int (0 : Int32))] [(.ref w_EQUAL)])) _
              refine XS.iloadN X30.here hx rfl (hb hby at_129) rfl ?_
              show Steps p.tables e below (T30.setTop (mkF m 130 #[.val (.int p0), .val (.int p1), .val (.int ((p0 &&& (2147483647 : Int32)) % (6 : Int32))), .val (.ref w_EQUAL), .val (.int (2 : Int32)), .val (.int (4 : Int32)), .val (.int (0 : Int32))] [(.int p1), (.ref w_EQUAL)])) _
              refine st35.trans ?_
              show Steps p.tables e below (T35.setTop (mkF m 133 #[.val (.int p0), .val (.int p1), .val (.int ((p0 &&& (2147483647 : Int32)) % (6 : Int32))), .val (.ref w_EQUAL), .val (.int (2 : Int32)), .val (.int (4 : Int32)), .val (.int (0 : Int32))] [(.int (hold (2 : Int32) p1))])) _
              refine XS.iload X35.here hx rfl (hb hby at_133) rfl ?_
              exact k
            refine own_go (A' := (T35.setTop (mkF m 138 #[.val (.int p0), .val (.int p1), .val (.int ((p0 &&& (2147483647 : Int32)) % (6 : Int32))), .val (.ref w_EQUAL), .val (.int (2 : Int32)), .val (.int (4 : Int32)), .val (.int (0 : Int32))] []))) (fun t k => XS.icmpNo X35.here hx rfl (hb hby at_135) rfl (teq (by simp [hold, hc31, hc33, own_hC hc31 hc33])).2 k) ?_
            refine own_go (A' := (T35.setTop (mkF m 143 #[.val (.int p0), .val (.int p1), .val (.int ((p0 &&& (2147483647 : Int32)) % (6 : Int32))), .val (.ref w_EQUAL), .val (.int (2 : Int32)), .val (.int (4 : Int32)), .val (.int (0 : Int32))] [(.int (1 : Int32))]))) (fun t k => ?_) ?_
            · show Steps p.tables e below (T35.setTop (mkF m 138 #[.val (.int p0), .val (.int p1), .val (.int ((p0 &&& (2147483647 : Int32)) % (6 : Int32))), .val (.ref w_EQUAL), .val (.int (2 : Int32)), .val (.int (4 : Int32)), .val (.int (0 : Int32))] [])) _
              refine XS.iconst X35.here hx rfl (hb hby at_138) ?_
              show Steps p.tables e below (T35.setTop (mkF m 139 #[.val (.int p0), .val (.int p1), .val (.int ((p0 &&& (2147483647 : Int32)) % (6 : Int32))), .val (.ref w_EQUAL), .val (.int (2 : Int32)), .val (.int (4 : Int32)), .val (.int (0 : Int32))] [(.int (1 : Int32))])) _
              refine XS.goto X35.here hx rfl (pc0 := 139) (pc' := 143) rfl (hb hby at_139) (by decide) (by decide) ?_
              exact k
            obtain ⟨fs, hr, hrun, hended, hW, hsame⟩ := X35.leave (v := some (.int (1 : Int32))) (fun h => by rw [Bd.returns] at h; cases h)
            refine ⟨_, _, ?_, hrun, hended, _, _, rfl, ?_, ⟨_, rfl⟩, hW, hsame.mono (by decide) (by decide)⟩
            · show Steps p.tables e below (T35.setTop (mkF m 143 #[.val (.int p0), .val (.int p1), .val (.int ((p0 &&& (2147483647 : Int32)) % (6 : Int32))), .val (.ref w_EQUAL), .val (.int (2 : Int32)), .val (.int (4 : Int32)), .val (.int (0 : Int32))] [(.int (1 : Int32))])) _
              exact retN X35 hx (t := .boolean) Bd.returns (by simp) (hb hby at_143) hr
            · show Q0 Z p0 p1 w_LESS w_EQUAL w_GREATER_OR_EQUAL w_LESS_OR_EQUAL w_GREATER w_NOT_EQUAL h0 n0 _ _ _
              exact ⟨rfl, N35⟩
      · -- hc29: no
        refine own_go (A' := (s₁.setTop (mkF m 52 #[.val (.int p0), .val (.int p1), .val (.int ((p0 &&& (2147483647 : Int32)) % (6 : Int32))), .unset, .unset, .unset, .unset] []))) (fun t k => XS.icmpYes X0.here hx rfl (pc0 := 39) (pc' := 52) rfl (hb hby at_39) rfl (feq hc29).2 (by decide) (by decide) k) ?_
        refine own_go (A' := (s₁.setTop (mkF m 54 #[.val (.int p0), .val (.int p1), .val (.int ((p0 &&& (2147483647 : Int32)) % (6 : Int32))), .unset, .unset, .unset, .unset] [(.int (3 : Int32)), (.int ((p0 &&& (2147483647 : Int32)) % (6 : Int32)))]))) (fun t k => ?_) ?_
        · show Steps p.tables e below (s₁.setTop (mkF m 52 #[.val (.int p0), .val (.int p1), .val (.int ((p0 &&& (2147483647 : Int32)) % (6 : Int32))), .unset, .unset, .unset, .unset] [])) _
          refine XS.iloadN X0.here hx rfl (hb hby at_52) rfl ?_
          show Steps p.tables e below (s₁.setTop (mkF m 53 #[.val (.int p0), .val (.int p1), .val (.int ((p0 &&& (2147483647 : Int32)) % (6 : Int32))), .unset, .unset, .unset, .unset] [(.int ((p0 &&& (2147483647 : Int32)) % (6 : Int32)))])) _
          refine XS.iconst X0.here hx rfl (hb hby at_53) ?_
          exact k
        by_cases hc36 : ((p0 &&& (2147483647 : Int32)) % (6 : Int32)) = (3 : Int32)
        · -- hc36: yes
          refine own_go (A' := (s₁.setTop (mkF m 57 #[.val (.int p0), .val (.int p1), .val (.int ((p0 &&& (2147483647 : Int32)) % (6 : Int32))), .unset, .unset, .unset, .unset] []))) (fun t k => XS.icmpNo X0.here hx rfl (hb hby at_54) rfl (teq hc36).2 k) ?_
          obtain ⟨T37, X37, e37, st37⟩ := getS2 X0 hx hZ hown (host := "") (Or.inl (hw _ (List.mem_of_getElem? (i := 26) rfl))) Via.refl e0 S_NOT_EQUAL (g := (mkF m 57 #[.val (.int p0), .val (.int p1), .val (.int ((p0 &&& (2147483647 : Int32)) % (6 : Int32))), .unset, .unset, .unset, .unset] [])) rfl (hb hby at_57)
          refine own_go (A' := (T37.setTop (mkF m 91 #[.val (.int p0), .val (.int p1), .val (.int ((p0 &&& (2147483647 : Int32)) % (6 : Int32))), .val (.ref w_NOT_EQUAL), .val (.int (5 : Int32)), .unset, .unset] [(.int p1)]))) (fun t k => ?_) ?_
          · show Steps p.tables e below (s₁.setTop (mkF m 57 #[.val (.int p0), .val (.int p1), .val (.int ((p0 &&& (2147483647 : Int32)) % (6 : Int32))), .unset, .unset, .unset, .unset] [])) _
            refine st37 _ ?_
            show Steps p.tables e below (T37.setTop (mkF m 60 #[.val (.int p0), .val (.int p1), .val (.int ((p0 &&& (2147483647 : Int32)) % (6 : Int32))), .unset, .unset, .unset, .unset] [(.ref w_NOT_EQUAL)])) _
            refine XS.astoreN X37.here hx rfl (hb hby at_60) rfl rfl (l' := #[.val (.int p0), .val (.int p1), .val (.int ((p0 &&& (2147483647 : Int32)) % (6 : Int32))), .val (.ref w_NOT_EQUAL), .unset, .unset, .unset]) rfl ?_
            show Steps p.tables e below (T37.setTop (mkF m 61 #[.val (.int p0), .val (.int p1), .val (.int ((p0 &&& (2147483647 : Int32)) % (6 : Int32))), .val (.ref w_NOT_EQUAL), .unset, .unset, .unset] [])) _
            refine XS.iconst X37.here hx rfl (hb hby at_61) ?_
            show Steps p.tables e below (T37.setTop (mkF m 62 #[.val (.int p0), .val (.int p1), .val (.int ((p0 &&& (2147483647 : Int32)) % (6 : Int32))), .val (.ref w_NOT_EQUAL), .unset, .unset, .unset] [(.int (5 : Int32))])) _
            refine XS.istore X37.here hx rfl (hb hby at_62) rfl (l' := #[.val (.int p0), .val (.int p1), .val (.int ((p0 &&& (2147483647 : Int32)) % (6 : Int32))), .val (.ref w_NOT_EQUAL), .val (.int (5 : Int32)), .unset, .unset]) rfl ?_
            show Steps p.tables e below (T37.setTop (mkF m 64 #[.val (.int p0), .val (.int p1), .val (.int ((p0 &&& (2147483647 : Int32)) % (6 : Int32))), .val (.ref w_NOT_EQUAL), .val (.int (5 : Int32)), .unset, .unset] [])) _
            refine XS.goto X37.here hx rfl (pc0 := 64) (pc' := 90) rfl (hb hby at_64) (by decide) (by decide) ?_
            show Steps p.tables e below (T37.setTop (mkF m 90 #[.val (.int p0), .val (.int p1), .val (.int ((p0 &&& (2147483647 : Int32)) % (6 : Int32))), .val (.ref w_NOT_EQUAL), .val (.int (5 : Int32)), .unset, .unset] [])) _
            refine XS.iloadN X37.here hx rfl (hb hby at_90) rfl ?_
            exact k
          by_cases hc38 : p1 < (0 : Int32)
          · -- hc38: yes
            refine own_go (A' := (T37.setTop (mkF m 94 #[.val (.int p0), .val (.int p1), .val (.int ((p0 &&& (2147483647 : Int32)) % (6 : Int32))), .val (.ref w_NOT_EQUAL), .val (.int (5 : Int32)), .unset, .unset] []))) (fun t k => XS.ifNo X37.here hx rfl (hb hby at_91) rfl ((if0 _ _).trans (tlt hc38).2.1) k) ?_
            refine own_go (A' := (T37.setTop (mkF m 118 #[.val (.int p0), .val (.int p1), .val (.int ((p0 &&& (2147483647 : Int32)) % (6 : Int32))), .val (.ref w_NOT_EQUAL), .val (.int (5 : Int32)), .val (.int (1 : Int32)), .unset] [(.int ((5 : Int32) &&& (1 : Int32)))]))) (fun t k => ?_) ?_
            · show Steps p.tables e below (T37.setTop (mkF m 94 #[.val (.int p0), .val (.int p1), .val (.int ((p0 &&& (2147483647 : Int32)) % (6 : Int32))), .val (.ref w_NOT_EQUAL), .val (.int (5 : Int32)), .unset, .unset] [])) _
              refine XS.iconst X37.here hx rfl (hb hby at_94) ?_
              show Steps p.tables e below (T37.setTop (mkF m 95 #[.val (.int p0), .val (.int p1), .val (.int ((p0 &&& (2147483647 : Int32)) % (6 : Int32))), .val (.ref w_NOT_EQUAL), .val (.int (5 : Int32)), .unset, .unset] [(.int (1 : Int32))])) _
              refine XS.istore X37.here hx rfl (hb hby at_95) rfl (l' := #[.val (.int p0), .val (.int p1), .val (.int ((p0 &&& (2147483647 : Int32)) % (6 : Int32))), .val (.ref w_NOT_EQUAL), .val (.int (5 : Int32)), .val (.int (1 : Int32)), .unset]) rfl ?_
              show Steps p.tables e below (T37.setTop (mkF m 97 #[.val (.int p0), .val (.int p1), .val (.int ((p0 &&& (2147483647 : Int32)) % (6 : Int32))), .val (.ref w_NOT_EQUAL), .val (.int (5 : Int32)), .val (.int (1 : Int32)), .unset] [])) _
              refine XS.goto X37.here hx rfl (pc0 := 97) (pc' := 113) rfl (hb hby at_97) (by decide) (by decide) ?_
              show Steps p.tables e below (T37.setTop (mkF m 113 #[.val (.int p0), .val (.int p1), .val (.int ((p0 &&& (2147483647 : Int32)) % (6 : Int32))), .val (.ref w_NOT_EQUAL), .val (.int (5 : Int32)), .val (.int (1 : Int32)), .unset] [])) _
              refine XS.iload X37.here hx rfl (hb hby at_113) rfl ?_
              show Steps p.tables e below (T37.setTop (mkF m 115 #[.val (.int p0), .val (.int p1), .val (.int ((p0 &&& (2147483647 : Int32)) % (6 : Int32))), .val (.ref w_NOT_EQUAL), .val (.int (5 : Int32)), .val (.int (1 : Int32)), .unset] [(.int (5 : Int32))])) _
              refine XS.iload X37.here hx rfl (hb hby at_115) rfl ?_
              show Steps p.tables e below (T37.setTop (mkF m 117 #[.val (.int p0), .val (.int p1), .val (.int ((p0 &&& (2147483647 : Int32)) % (6 : Int32))), .val (.ref w_NOT_EQUAL), .val (.int (5 : Int32)), .val (.int (1 : Int32)), .unset] [(.int (1 : Int32)), (.int (5 : Int32))])) _
              refine XS.iand X37.here hx rfl (hb hby at_117) rfl ?_
              exact k
            refine own_go (A' := (T37.setTop (mkF m 121 #[.val (.int p0), .val (.int p1), .val (.int ((p0 &&& (2147483647 : Int32)) % (6 : Int32))), .val (.ref w_NOT_EQUAL), .val (.int (5 : Int32)), .val (.int (1 : Int32)), .unset] []))) (fun t k => XS.ifNo X37.here hx rfl (hb hby at_118) rfl ((if0 _ _).trans (feq (by decide : ¬ (((5 : Int32) &&& (1 : Int32)) = (0 : Int32)))).1) k) ?_
            obtain ⟨cq39, kq39, q39a, q39b, q39c⟩ := isOf hZ e37 E_NOT_EQUAL
            obtain ⟨_, _, ⟨T39, L39, k39, n39⟩, -, X39, ⟨Lc39, hQ39, l39, y39, z39⟩, st39⟩ := X37.virtualBack hx (y := (⟨"com/example/pathwarden/pathwarden/flow/Relation", "holds", "(I)Z"⟩ : MethodName)) (z := (⟨"com/example/pathwarden/pathwarden/flow/Relation", "holds", "(I)Z"⟩ : MethodName)) hown (mvT hZ (hw _ (List.mem_of_getElem? (i := 4) rfl))) (mvT hZ (hw _ (List.mem_of_getElem? (i := 5) rfl))) (notFace_of_selects (args := #[]) (mvT hZ (hw _ (List.mem_of_getElem? (i := 7) rfl)))) (mvT hZ (hw _ (List.mem_of_getElem? (i := 7) rfl))) (mvT hZ (hw _ (List.mem_of_getElem? (i := 6) rfl))) (by decide) (backOf (W := 0) (rm1 l Z a0 hw [] w_NOT_EQUAL p1 (3 : Int32) h0 n0 Z0 O_NOT_EQUAL_ordinal E_NOT_EQUAL (by decide)) hZ (hw _ (List.mem_of_getElem? (i := 8) rfl)) (hw _ (List.mem_of_getElem? (i := 2) rfl)) (by decide) (by decide)) q39a q39c (g := (mkF m 130 #[.val (.int p0), .val (.int p1), .val (.int ((p0 &&& (2147483647 : Int32)) % (6 : Int32))), .val (.ref w_NOT_EQUAL), .val (.int (5 : Int32)), .val (.int (1 : Int32)), .val (.int (1 : Int32))] [(.int p1), (.ref w_NOT_EQUAL)])) rfl (by rw [hml]; rfl) (Steps.refl _) (argsL := [(.int p1)]) (rest := []) (lenOf pd_1 rfl) rfl (by show 2 * 0 + _ ≤ _; exact Nat.le_of_eq rfl) (hb hby at_130) (fun _ _ => ⟨rfl, e37, (by decide : 0 + 0 ≤ _), (by decide : 0 + 0 ≤ _)⟩)
            dsimp only [Pt.U, Pt.locs, Pt.cells, Pt.slots] at X39 l39 y39 z39 st39 hQ39
            subst l39 y39 z39
            obtain ⟨rfl, N39q, e39⟩ := hQ39
            have N39 := Fr.app N0 N39q
            refine own_go (A' := (T39.setTop (mkF m 135 #[.val (.int p0), .val (.int p1), .val (.int ((p0 &&& (2147483647 : Int32)) % (6 : Int32))), .val (.ref w_NOT_EQUAL), .val (.int (5 : Int32)), .val (.int (1 : Int32)), .val (.int (1 : Int32))] [(.int (1 : Int32)), (.int (hold (3 : Int32) p1))]))) (fun t k => ?_) ?_
            · show Steps p.tables e below (T37.setTop (mkF m 121 #[.val (.int p0), .val (.int p1), .val (.int ((p0 &&& (2147483647 : Int32)) % (6 : Int32))), .val (.ref w_NOT_EQUAL), .val (.int (5 : Int32)), .val (.int (1 : Int32)), .unset] [])) _
              refine XS.iconst X37.here hx rfl (hb hby at_121) ?_
              show Steps p.tables e below (T37.setTop (mkF m 122 #[.val (.int p0), .val (.int p1), .val (.int ((p0 &&& (2147483647 : Int32)) % (6 : Int32))), .val (.ref w_NOT_EQUAL), .val (.int (5 : Int32)), .val (.int (1 : Int32)), .unset] [(.int (1 : Int32))])) _
              refine XS.goto X37.here hx rfl (pc0 := 122) (pc' := 126) rfl (hb hby at_122) (by decide) (by decide) ?_
              show Steps p.tables e below (T37.setTop (mkF m 126 #[.val (.int p0), .val (.int p1), .val (.int ((p0 &&& (2147483647 : Int32)) % (6 : Int32))), .val (.ref w_NOT_EQUAL), .val (.int (5 : Int32)), .val (.int (1 : Int32)), .unset] [(.int (1 : Int32))])) _
              refine XS.istore X37.here hx rfl (hb hby at_126) rfl (l' := #[.val (.int p0), .val (.int p1), .val (.int ((p0 &&& (2147483647 : Int32)) % (6 : Int32))), .val (.ref w_NOT_EQUAL), .val (.int (5 : Int32)), .val (.int (1 : Int32)), .val (.int (1 : Int32))]) rfl ?_
              show Steps p.tables e below (T37.setTop (mkF m 128 #[.val (.int p0), .val (.int p1), .val (.int ((p0 &&& (2147483647 : Int32)) % (6 : Int32))), .val (.ref w_NOT_EQUAL), .val (.int (5 : Int32)), .val (.int (1 : Int32)), .val (.int (1 : Int32))] [])) _
              refine XS.aloadN X37.here hx rfl (hb hby at_128) rfl rfl ?_
              show Steps p.tables e below (T37.setTop (mkF m 129 #[.val (.int p0), .val (.int p1), .val (.int ((p0 &&& (2147483647 : Int32)) % (6 : Int32))), .val (.ref w_NOT_EQUAL), .val (.int (5 : Int32)), .val (.int (1 : Int32)), .val (.int (1 : Int32))] [(.ref w_NOT_EQUAL)])) _
              refine XS.iloadN X37.here hx rfl (hb hby at_129) rfl ?_
              show Steps p.tables e below (T37.setTop (mkF m 130 #[.val (.int p0), .val (.int p1), .val (.int ((p0 &&& (2147483647 : Int32)) % (6 : Int32))), .val (.ref w_NOT_EQUAL), .val (.int (5 : Int32)), .val (.int (1 : Int32)), .val (.int (1 : Int32))] [(.int p1), (.ref w_NOT_EQUAL)])) _
              refine st39.trans ?_
              show Steps p.tables e below (T39.setTop (mkF m 133 #[.val (.int p0), .val (.int p1), .val (.int ((p0 &&& (2147483647 : Int32)) % (6 : Int32))), .val (.ref w_NOT_EQUAL), .val (.int (5 : Int32)), .val (.int (1 : Int32)), .val (.int (1 : Int32))] [(.int (hold (3 : Int32) p1))])) _
              refine XS.iload X39.here hx rfl (hb hby at_133) rfl ?_
              exact k
            refine own_go (A' := (T39.setTop (mkF m 138 #[.val (.int p0), .val (.int p1), .val (.int ((p0 &&& (2147483647 : Int32)) % (6 : Int32))), .val (.ref w_NOT_EQUAL), .val (.int (5 : Int32)), .val (.int (1 : Int32)), .val (.int (1 : Int32))] []))) (fun t k => XS.icmpNo X39.here hx rfl (hb hby at_135) rfl (teq (by simp [hold, hc38, (own_hA hc38).1, (own_hA hc38).2])).2 k) ?_
            refine own_go (A' := (T39.setTop (mkF m 143 #[.val (.int p0), .val (.int p1), .val (.int ((p0 &&& (2147483647 : Int32)) % (6 : Int32))), .val (.ref w_NOT_EQUAL), .val (.int (5 : Int32)), .val (.int (1 : Int32)), .val (.int (1 : Int32))] [(.int (1 : Int32))]))) (fun t k => ?_) ?_
            · show Steps p.tables e below (T39.setTop (mkF m 138 #[.val (.int p0), .val (.int p1), .val (.int ((p0 &&& (2147483647 : Int32)) % (6 : Int32))), .val (.ref w_NOT_EQUAL), .val (.int (5 : Int32)), .val (.int (1 : Int32)), .val (.int (1 : Int32))] [])) _
              refine XS.iconst X39.here hx rfl (hb hby at_138) ?_
              show Steps p.tables e below (T39.setTop (mkF m 139 #[.val (.int p0), .val (.int p1), .val (.int ((p0 &&& (2147483647 : Int32)) % (6 : Int32))), .val (.ref w_NOT_EQUAL), .val (.int (5 : Int32)), .val (.int (1 : Int32)), .val (.int (1 : Int32))] [(.int (1 : Int32))])) _
              refine XS.goto X39.here hx rfl (pc0 := 139) (pc' := 143) rfl (hb hby at_139) (by decide) (by decide) ?_
              exact k
            obtain ⟨fs, hr, hrun, hended, hW, hsame⟩ := X39.leave (v := some (.int (1 : Int32))) (fun h => by rw [Bd.returns] at h; cases h)
            refine ⟨_, _, ?_, hrun, hended, _, _, rfl, ?_, ⟨_, rfl⟩, hW, hsame.mono (by decide) (by decide)⟩
            · show Steps p.tables e below (T39.setTop (mkF m 143 #[.val (.int p0), .val (.int p1), .val (.int ((p0 &&& (2147483647 : Int32)) % (6 : Int32))), .val (.ref w_NOT_EQUAL), .val (.int (5 : Int32)), .val (.int (1 : Int32)), .val (.int (1 : Int32))] [(.int (1 : Int32))])) _
              exact retN X39 hx (t := .boolean) Bd.returns (by simp) (hb hby at_143) hr
            · show Q0 Z p0 p1 w_LESS w_EQUAL w_GREATER_OR_EQUAL w_LESS_OR_EQUAL w_GREATER w_NOT_EQUAL h0 n0 _ _ _
              exact ⟨rfl, N39⟩
          · -- hc38: no
            refine own_go (A' := (T37.setTop (mkF m 100 #[.val (.int p0), .val (.int p1), .val (.int ((p0 &&& (2147483647 : Int32)) % (6 : Int32))), .val (.ref w_NOT_EQUAL), .val (.int (5 : Int32)), .unset, .unset] []))) (fun t k => XS.ifYes X37.here hx rfl (pc0 := 91) (pc' := 100) rfl (hb hby at_91) rfl ((if0 _ _).trans (flt hc38).2.1) (by decide) (by decide) k) ?_
            refine own_go (A' := (T37.setTop (mkF m 101 #[.val (.int p0), .val (.int p1), .val (.int ((p0 &&& (2147483647 : Int32)) % (6 : Int32))), .val (.ref w_NOT_EQUAL), .val (.int (5 : Int32)), .unset, .unset] [(.int p1)]))) (fun t k => ?_) ?_
            · show Steps p.tables e below (T37.setTop (mkF m 100 #[.val (.int p0), .val (.int p1), .val (.int ((p0 &&& (2147483647 : Int32)) % (6 : Int32))), .val (.ref w_NOT_EQUAL), .val (.int (5 : Int32)), .unset, .unset] [])) _
              refine XS.iloadN X37.here hx rfl (hb hby at_100) rfl ?_
              exact k
            by_cases hc40 : p1 = (0 : Int32)
            · -- hc40: yes
              refine own_go (A' := (T37.setTop (mkF m 104 #[.val (.int p0), .val (.int p1), .val (.int ((p0 &&& (2147483647 : Int32)) % (6 : Int32))), .val (.ref w_NOT_EQUAL), .val (.int (5 : Int32)), .unset, .unset] []))) (fun t k => XS.ifNo X37.here hx rfl (hb hby at_101) rfl ((if0 _ _).trans (teq hc40).2) k) ?_
              refine own_go (A' := (T37.setTop (mkF m 118 #[.val (.int p0), .val (.int p1), .val (.int ((p0 &&& (2147483647 : Int32)) % (6 : Int32))), .val (.ref w_NOT_EQUAL), .val (.int (5 : Int32)), .val (.int (2 : Int32)), .unset] [(.int ((5 : Int32) &&& (2 : Int32)))]))) (fun t k => ?_) ?_
              · show Steps p.tables e below (T37.setTop (mkF m 104 #[.val (.int p0), .val (.int p1), .val (.int ((p0 &&& (2147483647 : Int32)) % (6 : Int32))), .val (.ref w_NOT_EQUAL), .val (.int (5 : Int32)), .unset, .unset] [])) _
                refine XS.iconst X37.here hx rfl (hb hby at_104) ?_
                show Steps p.tables e below (T37.setTop (mkF m 105 #[.val (.int p0), .val (.int p1), .val (.int ((p0 &&& (2147483647 : Int32)) % (6 : Int32))), .val (.ref w_NOT_EQUAL), .val (.int (5 : Int32)), .unset, .unset] [(.int (2 : Int32))])) _
                refine XS.istore X37.here hx rfl (hb hby at_105) rfl (l' := #[.val (.int p0), .val (.int p1), .val (.int ((p0 &&& (2147483647 : Int32)) % (6 : Int32))), .val (.ref w_NOT_EQUAL), .val (.int (5 : Int32)), .val (.int (2 : Int32)), .unset]) rfl ?_
                show Steps p.tables e below (T37.setTop (mkF m 107 #[.val (.int p0), .val (.int p1), .val (.int ((p0 &&& (2147483647 : Int32)) % (6 : Int32))), .val (.ref w_NOT_EQUAL), .val (.int (5 : Int32)), .val (.int (2 : Int32)), .unset] [])) _
                refine XS.goto X37.here hx rfl (pc0 := 107) (pc' := 113) rfl (hb hby at_107) (by decide) (by decide) ?_
                show Steps p.tables e below (T37.setTop (mkF m 113 #[.val (.int p0), .val (.int p1), .val (.int ((p0 &&& (2147483647 : Int32)) % (6 : Int32))), .val (.ref w_NOT_EQUAL), .val (.int (5 : Int32)), .val (.int (2 : Int32)), .unset] [])) _
                refine XS.iload X37.here hx rfl (hb hby at_113) rfl ?_
                show Steps p.tables e below (T37.setTop (mkF m 115 #[.val (.int p0), .val (.int p1), .val (.int ((p0 &&& (2147483647 : Int32)) % (6 : Int32))), .val (.ref w_NOT_EQUAL), .val (.int (5 : Int32)), .val (.int (2 : Int32)), .unset] [(.int (5 : Int32))])) _
                refine XS.iload X37.here hx rfl (hb hby at_115) rfl ?_
                show Steps p.tables e below (T37.setTop (mkF m 117 #[.val (.int p0), .val (.int p1), .val (.int ((p0 &&& (2147483647 : Int32)) % (6 : Int32))), .val (.ref w_NOT_EQUAL), .val (.int (5 : Int32)), .val (.int (2 : Int32)), .unset] [(.int (2 : Int32)), (.int (5 : Int32))])) _
                refine XS.iand X37.here hx rfl (hb hby at_117) rfl ?_
                exact k
              refine own_go (A' := (T37.setTop (mkF m 125 #[.val (.int p0), .val (.int p1), .val (.int ((p0 &&& (2147483647 : Int32)) % (6 : Int32))), .val (.ref w_NOT_EQUAL), .val (.int (5 : Int32)), .val (.int (2 : Int32)), .unset] []))) (fun t k => XS.ifYes X37.here hx rfl (pc0 := 118) (pc' := 125) rfl (hb hby at_118) rfl ((if0 _ _).trans (teq (by decide : ((5 : Int32) &&& (2 : Int32)) = (0 : Int32))).1) (by decide) (by decide) k) ?_
              obtain ⟨cq41, kq41, q41a, q41b, q41c⟩ := isOf hZ e37 E_NOT_EQUAL
              obtain ⟨_, _, ⟨T41, L41, k41, n41⟩, -, X41, ⟨Lc41, hQ41, l41, y41, z41⟩, st41⟩ := X37.virtualBack hx (y := (⟨"com/example/pathwarden/pathwarden/flow/Relation", "holds", "(I)Z"⟩ : MethodName)) (z := (⟨"com/example/pathwarden/pathwarden/flow/Relation", "holds", "(I)Z"⟩ : MethodName)) hown (mvT hZ (hw _ (List.mem_of_getElem? (i := 4) rfl))) (mvT hZ (hw _ (List.mem_of_getElem? (i := 5) rfl))) (notFace_of_selects (args := #[]) (mvT hZ (hw _ (List.mem_of_getElem? (i := 7) rfl)))) (mvT hZ (hw _ (List.mem_of_getElem? (i := 7) rfl))) (mvT hZ (hw _ (List.mem_of_getElem? (i := 6) rfl))) (by decide) (backOf (W := 0) (rm1 l Z a0 hw [] w_NOT_EQUAL p1 (3 : Int32) h0 n0 Z0 O_NOT_EQUAL_ordinal E_NOT_EQUAL (by decide)) hZ (hw _ (List.mem_of_getElem? (i := 8) rfl)) (hw _ (List.mem_of_getElem? (i := 2) rfl)) (by decide) (by decide)) q41a q41c (g := (mkF m 130 #[.val (.int p0), .val (.int p1), .val (.int ((p0 &&& (2147483647 : Int32)) % (6 : Int32))), .val (.ref w_NOT_EQUAL), .val (.int (5 : Int32)), .val (.int (2 : Int32)), .val (.int (0 : Int32))] [(.int p1), (.ref w_NOT_EQUAL)])) rfl (by rw [hml]; rfl) (Steps.refl _) (argsL := [(.int p1)]) (rest := []) (lenOf pd_1 rfl) rfl (by show 2 * 0 + _ ≤ _; exact Nat.le_of_eq rfl) (hb hby at_130) (fun _ _ => ⟨rfl, e37, (by decide : 0 + 0 ≤ _), (by decide : 0 + 0 ≤ _)⟩)
              dsimp only [Pt.U, Pt.locs, Pt.cells, Pt.slots] at X41 l41 y41 z41 st41 hQ41
              subst l41 y41 z41
              obtain ⟨rfl, N41q, e41⟩ := hQ41
              have N41 := Fr.app N0 N41q
              refine own_go (A' := (T41.setTop (mkF m 135 #[.val (.int p0), .val (.int p1), .val (.int ((p0 &&& (2147483647 : Int32)) % (6 : Int32))), .val (.ref w_NOT_EQUAL), .val (.int (5 : Int32)), .val (.int (2 : Int32)), .val (.int (0 : Int32))] [(.int (0 : Int32)), (.int (hold (3 : Int32) p1))]))) (fun t k => ?_) ?_
              · show Steps p.tables e below (T37.setTop (mkF m 125 #[.val (.int p0), .val (.int p1), .val (.int ((p0 &&& (2147483647 : Int32)) % (6 : Int32))), .val (.ref w_NOT_EQUAL), .val (.int (5 : Int32)), .val (.int (2 : Int32)), .unset] [])) _
                refine XS.iconst X37.here hx rfl (hb hby at_125) ?_
                show Steps p.tables e below (T37.setTop (mkF m 126 #[.val (.int p0), .val (.int p1), .val (.int ((p0 &&& (2147483647 : Int32)) % (6 : Int32))), .val (.ref w_NOT_EQUAL), .val (.int (5 : Int32)), .val (.int (2 : Int32)), .unset] [(.int (0 : Int32))])) _
                refine XS.istore X37.here hx rfl (hb hby at_126) rfl (l' := #[.val (.int p0), .val (.int p1), .val (.int ((p0 &&& (2147483647 : Int32)) % (6 : Int32))), .val (.ref w_NOT_EQUAL), .val (.int (5 : Int32)), .val (.int (2 : Int32)), .val (.int (0 : Int32))]) rfl ?_
                show Steps p.tables e below (T37.setTop (mkF m 128 #[.val (.int p0), .val (.int p1), .val (.int ((p0 &&& (2147483647 : Int32)) % (6 : Int32))), .val (.ref w_NOT_EQUAL), .val (.int (5 : Int32)), .val (.int (2 : Int32)), .val (.int (0 : Int32))] [])) _
                refine XS.aloadN X37.here hx rfl (hb hby at_128) rfl rfl ?_
                show Steps p.tables e below (T37.setTop (mkF m 129 #[.val (.int p0), .val (.int p1), .val (.int ((p0 &&& (2147483647 : Int32)) % (6 : Int32))), .val (.ref w_NOT_EQUAL), .val (.int (5 : Int32)), .val (.int (2 : Int32)), .val (.int (0 : Int32))] [(.ref w_NOT_EQUAL)])) _
                refine XS.iloadN X37.here hx rfl (hb hby at_129) rfl ?_
                show Steps p.tables e below (T37.setTop (mkF m 130 #[.val (.int p0), .val (.int p1), .val (.int ((p0 &&& (2147483647 : Int32)) % (6 : Int32))), .val (.ref w_NOT_EQUAL), .val (.int (5 : Int32)), .val (.int (2 : Int32)), .val (.int (0 : Int32))] [(.int p1), (.ref w_NOT_EQUAL)])) _
                refine st41.trans ?_
                show Steps p.tables e below (T41.setTop (mkF m 133 #[.val (.int p0), .val (.int p1), .val (.int ((p0 &&& (2147483647 : Int32)) % (6 : Int32))), .val (.ref w_NOT_EQUAL), .val (.int (5 : Int32)), .val (.int (2 : Int32)), .val (.int (0 : Int32))] [(.int (hold (3 : Int32) p1))])) _
                refine XS.iload X41.here hx rfl (hb hby at_133) rfl ?_
                exact k
              refine own_go (A' := (T41.setTop (mkF m 138 #[.val (.int p0), .val (.int p1), .val (.int ((p0 &&& (2147483647 : Int32)) % (6 : Int32))), .val (.ref w_NOT_EQUAL), .val (.int (5 : Int32)), .val (.int (2 : Int32)), .val (.int (0 : Int32))] []))) (fun t k => XS.icmpNo X41.here hx rfl (hb hby at_135) rfl (teq (by simp [hold, hc40])).2 k) ?_
              refine own_go (A' := (T41.setTop (mkF m 143 #[.val (.int p0), .val (.int p1), .val (.int ((p0 &&& (2147483647 : Int32)) % (6 : Int32))), .val (.ref w_NOT_EQUAL), .val (.int (5 : Int32)), .val (.int (2 : Int32)), .val (.int (0 : Int32))] [(.int (1 : Int32))]))) (fun t k => ?_) ?_
              · show Steps p.tables e below (T41.setTop (mkF m 138 #[.val (.int p0), .val (.int p1), .val (.int ((p0 &&& (2147483647 : Int32)) % (6 : Int32))), .val (.ref w_NOT_EQUAL), .val (.int (5 : Int32)), .val (.int (2 : Int32)), .val (.int (0 : Int32))] [])) _
                refine XS.iconst X41.here hx rfl (hb hby at_138) ?_
                show Steps p.tables e below (T41.setTop (mkF m 139 #[.val (.int p0), .val (.int p1), .val (.int ((p0 &&& (2147483647 : Int32)) % (6 : Int32))), .val (.ref w_NOT_EQUAL), .val (.int (5 : Int32)), .val (.int (2 : Int32)), .val (.int (0 : Int32))] [(.int (1 : Int32))])) _
                refine XS.goto X41.here hx rfl (pc0 := 139) (pc' := 143) rfl (hb hby at_139) (by decide) (by decide) ?_
                exact k
              obtain ⟨fs, hr, hrun, hended, hW, hsame⟩ := X41.leave (v := some (.int (1 : Int32))) (fun h => by rw [Bd.returns] at h; cases h)
              refine ⟨_, _, ?_, hrun, hended, _, _, rfl, ?_, ⟨_, rfl⟩, hW, hsame.mono (by decide) (by decide)⟩
              · show Steps p.tables e below (T41.setTop (mkF m 143 #[.val (.int p0), .val (.int p1), .val (.int ((p0 &&& (2147483647 : Int32)) % (6 : Int32))), .val (.ref w_NOT_EQUAL), .val (.int (5 : Int32)), .val (.int (2 : Int32)), .val (.int (0 : Int32))] [(.int (1 : Int32))])) _
                exact retN X41 hx (t := .boolean) Bd.returns (by simp) (hb hby at_143) hr
              · show Q0 Z p0 p1 w_LESS w_EQUAL w_GREATER_OR_EQUAL w_LESS_OR_EQUAL w_GREATER w_NOT_EQUAL h0 n0 _ _ _
                exact ⟨rfl, N41⟩
            · -- hc40: no
              refine own_go (A' := (T37.setTop (mkF m 110 #[.val (.int p0), .val (.int p1), .val (.int ((p0 &&& (2147483647 : Int32)) % (6 : Int32))), .val (.ref w_NOT_EQUAL), .val (.int (5 : Int32)), .unset, .unset] []))) (fun t k => XS.ifYes X37.here hx rfl (pc0 := 101) (pc' := 110) rfl (hb hby at_101) rfl ((if0 _ _).trans (feq hc40).2) (by decide) (by decide) k) ?_
              refine own_go (A' := (T37.setTop (mkF m 118 #[.val (.int p0), .val (.int p1), .val (.int ((p0 &&& (2147483647 : Int32)) % (6 : Int32))), .val (.ref w_NOT_EQUAL), .val (.int (5 : Int32)), .val (.int (4 : Int32)), .unset] [(.int ((5 : Int32) &&& (4 : Int32)))]))) (fun t k => ?_) ?_
              · show Steps p.tables e below (T37.setTop (mkF m 110 #[.val (.int p0), .val (.int p1), .val (.int ((p0 &&& (2147483647 : Int32)) % (6 : Int32))), .val (.ref w_NOT_EQUAL), .val (.int (5 : Int32)), .unset, .unset] [])) _
                refine XS.iconst X37.here hx rfl (hb hby at_110) ?_
                show Steps p.tables e below (T37.setTop (mkF m 111 #[.val (.int p0), .val (.int p1), .val (.int ((p0 &&& (2147483647 : Int32)) % (6 : Int32))), .val (.ref w_NOT_EQUAL), .val (.int (5 : Int32)), .unset, .unset] [(.int (4 : Int32))])) _
                refine XS.istore X37.here hx rfl (hb hby at_111) rfl (l' := #[.val (.int p0), .val (.int p1), .val (.int ((p0 &&& (2147483647 : Int32)) % (6 : Int32))), .val (.ref w_NOT_EQUAL), .val (.int (5 : Int32)), .val (.int (4 : Int32)), .unset]) rfl ?_
                show Steps p.tables e below (T37.setTop (mkF m 113 #[.val (.int p0), .val (.int p1), .val (.int ((p0 &&& (2147483647 : Int32)) % (6 : Int32))), .val (.ref w_NOT_EQUAL), .val (.int (5 : Int32)), .val (.int (4 : Int32)), .unset] [])) _
                refine XS.iload X37.here hx rfl (hb hby at_113) rfl ?_
                show Steps p.tables e below (T37.setTop (mkF m 115 #[.val (.int p0), .val (.int p1), .val (.int ((p0 &&& (2147483647 : Int32)) % (6 : Int32))), .val (.ref w_NOT_EQUAL), .val (.int (5 : Int32)), .val (.int (4 : Int32)), .unset] [(.int (5 : Int32))])) _
                refine XS.iload X37.here hx rfl (hb hby at_115) rfl ?_
                show Steps p.tables e below (T37.setTop (mkF m 117 #[.val (.int p0), .val (.int p1), .val (.int ((p0 &&& (2147483647 : Int32)) % (6 : Int32))), .val (.ref w_NOT_EQUAL), .val (.int (5 : Int32)), .val (.int (4 : Int32)), .unset] [(.int (4 : Int32)), (.int (5 : Int32))])) _
                refine XS.iand X37.here hx rfl (hb hby at_117) rfl ?_
                exact k
              refine own_go (A' := (T37.setTop (mkF m 121 #[.val (.int p0), .val (.int p1), .val (.int ((p0 &&& (2147483647 : Int32)) % (6 : Int32))), .val (.ref w_NOT_EQUAL), .val (.int (5 : Int32)), .val (.int (4 : Int32)), .unset] []))) (fun t k => XS.ifNo X37.here hx rfl (hb hby at_118) rfl ((if0 _ _).trans (feq (by decide : ¬ (((5 : Int32) &&& (4 : Int32)) = (0 : Int32)))).1) k) ?_
              obtain ⟨cq42, kq42, q42a, q42b, q42c⟩ := isOf hZ e37 E_NOT_EQUAL
              obtain ⟨_, _, ⟨T42, L42, k42, n42⟩, -, X42, ⟨Lc42, hQ42, l42, y42, z42⟩, st42⟩ := X37.virtualBack hx (y := (⟨"com/example/pathwarden/pathwarden/flow/Relation", "holds", "(I)Z"⟩ : MethodName)) (z := (⟨"com/example/pathwarden/pathwarden/flow/Relation", "holds", "(I)Z"⟩ : MethodName)) hown (mvT hZ (hw _ (List.mem_of_getElem? (i := 4) rfl))) (mvT hZ (hw _ (List.mem_of_getElem? (i := 5) rfl))) (notFace_of_selects (args := #[]) (mvT hZ (hw _ (List.mem_of_getElem? (i := 7) rfl)))) (mvT hZ (hw _ (List.mem_of_getElem? (i := 7) rfl))) (mvT hZ (hw _ (List.mem_of_getElem? (i := 6) rfl))) (by decide) (backOf (W := 0) (rm1 l Z a0 hw [] w_NOT_EQUAL p1 (3 : Int32) h0 n0 Z0 O_NOT_EQUAL_ordinal E_NOT_EQUAL (by decide)) hZ (hw _ (List.mem_of_getElem? (i := 8) rfl)) (hw _ (List.mem_of_getElem? (i := 2) rfl)) (by decide) (by decide)) q42a q42c (g := (mkF m 130 #[.val (.int p0), .val (.int p1), .val (.int ((p0 &&& (2147483647 : Int32)) % (6 : Int32))), .val (.ref w_NOT_EQUAL), .val (.int (5 : Int32)), .val (.int (4 : Int32)), .val (.int (1 : Int32))] [(.int p1), (.ref w_NOT_EQUAL)])) rfl (by rw [hml]; rfl) (Steps.refl _) (argsL := [(.int p1)]) (rest := []) (lenOf pd_1 rfl) rfl (by show 2 * 0 + _ ≤ _; exact Nat.le_of_eq rfl) (hb hby at_130) (fun _ _ => ⟨rfl, e37, (by decide : 0 + 0 ≤ _), (by decide : 0 + 0 ≤ _)⟩)
              dsimp only [Pt.U, Pt.locs, Pt.cells, Pt.slots] at X42 l42 y42 z42 st42 hQ42
              subst l42 y42 z42
              obtain ⟨rfl, N42q, e42⟩ := hQ42
              have N42 := Fr.app N0 N42q
              refine own_go (A' := (T42.setTop (mkF m 135 #[.val (.int p0), .val (.int p1), .val (.int ((p0 &&& (2147483647 : Int32)) % (6 : Int32))), .val (.ref w_NOT_EQUAL), .val (.int (5 : Int32)), .val (.int (4 : Int32)), .val (.int (1 : Int32))] [(.int (1 : Int32)), (.int (hold (3 : Int32) p1))]))) (fun t k => ?_) ?_
              · show Steps p.tables e below (T37.setTop (mkF m 121 #[.val (.int p0), .val (.int p1), .val (.int ((p0 &&& (2147483647 : Int32)) % (6 : Int32))), .val (.ref w_NOT_EQUAL), .val (.int (5 : Int32)), .val (.int (4 : Int32)), .unset] [])) _
                refine XS.iconst X37.here hx rfl (hb hby at_121) ?_
                show Steps p.tables e below (T37.setTop (mkF m 122 #[.val (.int p0), .val (.int p1), .val (.int ((p0 &&& (2147483647 : Int32)) % (6 : Int32))), .val (.ref w_NOT_EQUAL), .val (.int (5 : Int32)), .val (.int (4 : Int32)), .unset] [(.int (1 : Int32))])) _
                refine XS.goto X37.here hx rfl (pc0 := 122) (pc' := 126) rfl (hb hby at_122) (by decide) (by decide) ?_
                show Steps p.tables e below (T37.setTop (mkF m 126 #[.val (.int p0), .val (.int p1), .val (.int ((p0 &&& (2147483647 : Int32)) % (6 : Int32))), .val (.ref w_NOT_EQUAL), .val (.int (5 : Int32)), .val (.int (4 : Int32)), .unset] [(.int (1 : Int32))])) _
                refine XS.istore X37.here hx rfl (hb hby at_126) rfl (l' := #[.val (.int p0), .val (.int p1), .val (.int ((p0 &&& (2147483647 : Int32)) % (6 : Int32))), .val (.ref w_NOT_EQUAL), .val (.int (5 : Int32)), .val (.int (4 : Int32)), .val (.int (1 : Int32))]) rfl ?_
                show Steps p.tables e below (T37.setTop (mkF m 128 #[.val (.int p0), .val (.int p1), .val (.int ((p0 &&& (2147483647 : Int32)) % (6 : Int32))), .val (.ref w_NOT_EQUAL), .val (.int (5 : Int32)), .val (.int (4 : Int32)), .val (.int (1 : Int32))] [])) _
                refine XS.aloadN X37.here hx rfl (hb hby at_128) rfl rfl ?_
                show Steps p.tables e below (T37.setTop (mkF m 129 #[.val (.int p0), .val (.int p1), .val (.int ((p0 &&& (2147483647 : Int32)) % (6 : Int32))), .val (.ref w_NOT_EQUAL), .val (.int (5 : Int32)), .val (.int (4 : Int32)), .val (.int (1 : Int32))] [(.ref w_NOT_EQUAL)])) _
                refine XS.iloadN X37.here hx rfl (hb hby at_129) rfl ?_
                show Steps p.tables e below (T37.setTop (mkF m 130 #[.val (.int p0), .val (.int p1), .val (.int ((p0 &&& (2147483647 : Int32)) % (6 : Int32))), .val (.ref w_NOT_EQUAL), .val (.int (5 : Int32)), .val (.int (4 : Int32)), .val (.int (1 : Int32))] [(.int p1), (.ref w_NOT_EQUAL)])) _
                refine st42.trans ?_
                show Steps p.tables e below (T42.setTop (mkF m 133 #[.val (.int p0), .val (.int p1), .val (.int ((p0 &&& (2147483647 : Int32)) % (6 : Int32))), .val (.ref w_NOT_EQUAL), .val (.int (5 : Int32)), .val (.int (4 : Int32)), .val (.int (1 : Int32))] [(.int (hold (3 : Int32) p1))])) _
                refine XS.iload X42.here hx rfl (hb hby at_133) rfl ?_
                exact k
              refine own_go (A' := (T42.setTop (mkF m 138 #[.val (.int p0), .val (.int p1), .val (.int ((p0 &&& (2147483647 : Int32)) % (6 : Int32))), .val (.ref w_NOT_EQUAL), .val (.int (5 : Int32)), .val (.int (4 : Int32)), .val (.int (1 : Int32))] []))) (fun t k => XS.icmpNo X42.here hx rfl (hb hby at_135) rfl (teq (by simp [hold, hc38, hc40, own_hC hc38 hc40])).2 k) ?_
              refine own_go (A' := (T42.setTop (mkF m 143 #[.val (.int p0), .val (.int p1), .val (.int ((p0 &&& (2147483647 : Int32)) % (6 : Int32))), .val (.ref w_NOT_EQUAL), .val (.int (5 : Int32)), .val (.int (4 : Int32)), .val (.int (1 : Int32))] [(.int (1 : Int32))]))) (fun t k => ?_) ?_
              · show Steps p.tables e below (T42.setTop (mkF m 138 #[.val (.int p0), .val (.int p1), .val (.int ((p0 &&& (2147483647 : Int32)) % (6 : Int32))), .val (.ref w_NOT_EQUAL), .val (.int (5 : Int32)), .val (.int (4 : Int32)), .val (.int (1 : Int32))] [])) _
                refine XS.iconst X42.here hx rfl (hb hby at_138) ?_
                show Steps p.tables e below (T42.setTop (mkF m 139 #[.val (.int p0), .val (.int p1), .val (.int ((p0 &&& (2147483647 : Int32)) % (6 : Int32))), .val (.ref w_NOT_EQUAL), .val (.int (5 : Int32)), .val (.int (4 : Int32)), .val (.int (1 : Int32))] [(.int (1 : Int32))])) _
                refine XS.goto X42.here hx rfl (pc0 := 139) (pc' := 143) rfl (hb hby at_139) (by decide) (by decide) ?_
                exact k
              obtain ⟨fs, hr, hrun, hended, hW, hsame⟩ := X42.leave (v := some (.int (1 : Int32))) (fun h => by rw [Bd.returns] at h; cases h)
              refine ⟨_, _, ?_, hrun, hended, _, _, rfl, ?_, ⟨_, rfl⟩, hW, hsame.mono (by decide) (by decide)⟩
              · show Steps p.tables e below (T42.setTop (mkF m 143 #[.val (.int p0), .val (.int p1), .val (.int ((p0 &&& (2147483647 : Int32)) % (6 : Int32))), .val (.ref w_NOT_EQUAL), .val (.int (5 : Int32)), .val (.int (4 : Int32)), .val (.int (1 : Int32))] [(.int (1 : Int32))])) _
                exact retN X42 hx (t := .boolean) Bd.returns (by simp) (hb hby at_143) hr
              · show Q0 Z p0 p1 w_LESS w_EQUAL w_GREATER_OR_EQUAL w_LESS_OR_EQUAL w_GREATER w_NOT_EQUAL h0 n0 _ _ _
                exact ⟨rfl, N42⟩
        · -- hc36: no
          refine own_go (A' := (s₁.setTop (mkF m 67 #[.val (.int p0), .val (.int p1), .val (.int ((p0 &&& (2147483647 : Int32)) % (6 : Int32))), .unset, .unset, .unset, .unset] []))) (fun t k => XS.icmpYes X0.here hx rfl (pc0 := 54) (pc' := 67) rfl (hb hby at_54) rfl (feq hc36).2 (by decide) (by decide) k) ?_
          refine own_go (A' := (s₁.setTop (mkF m 69 #[.val (.int p0), .val (.int p1), .val (.int ((p0 &&& (2147483647 : Int32)) % (6 : Int32))), .unset, .unset, .unset, .unset] [(.int (4 : Int32)), (.int ((p0 &&& (2147483647 : Int32)) % (6 : Int32)))]))) (fun t k => ?_) ?_
          · show Steps p.tables e below (s₁.setTop (mkF m 67 #[.val (.int p0), .val (.int p1), .val (.int ((p0 &&& (2147483647 : Int32)) % (6 : Int32))), .unset, .unset, .unset, .unset] [])) _
            refine XS.iloadN X0.here hx rfl (hb hby at_67) rfl ?_
            show Steps p.tables e below (s₁.setTop (mkF m 68 #[.val (.int p0), .val (.int p1), .val (.int ((p0 &&& (2147483647 : Int32)) % (6 : Int32))), .unset, .unset, .unset, .unset] [(.int ((p0 &&& (2147483647 : Int32)) % (6 : Int32)))])) _
            refine XS.iconst X0.here hx rfl (hb hby at_68) ?_
            exact k
          by_cases hc43 : ((p0 &&& (2147483647 : Int32)) % (6 : Int32)) = (4 : Int32)
          · -- hc43: yes
            refine own_go (A' := (s₁.setTop (mkF m 72 #[.val (.int p0), .val (.int p1), .val (.int ((p0 &&& (2147483647 : Int32)) % (6 : Int32))), .unset, .unset, .unset, .unset] []))) (fun t k => XS.icmpNo X0.here hx rfl (hb hby at_69) rfl (teq hc43).2 k) ?_
            obtain ⟨T44, X44, e44, st44⟩ := getS2 X0 hx hZ hown (host := "") (Or.inl (hw _ (List.mem_of_getElem? (i := 20) rfl))) Via.refl e0 S_GREATER_OR_EQUAL (g := (mkF m 72 #[.val (.int p0), .val (.int p1), .val (.int ((p0 &&& (2147483647 : Int32)) % (6 : Int32))), .unset, .unset, .unset, .unset] [])) rfl (hb hby at_72)
            refine own_go (A' := (T44.setTop (mkF m 91 #[.val (.int p0), .val (.int p1), .val (.int ((p0 &&& (2147483647 : Int32)) % (6 : Int32))), .val (.ref w_GREATER_OR_EQUAL), .val (.int (6 : Int32)), .unset, .unset] [(.int p1)]))) (fun t k => ?_) ?_
            · show Steps p.tables e below (s₁.setTop (mkF m 72 #[.val (.int p0), .val (.int p1), .val (.int ((p0 &&& (2147483647 : Int32)) % (6 : Int32))), .unset, .unset, .unset, .unset] [])) _
              refine st44 _ ?_
              show Steps p.tables e below (T44.setTop (mkF m 75 #[.val (.int p0), .val (.int p1), .val (.int ((p0 &&& (2147483647 : Int32)) % (6 : Int32))), .unset, .unset, .unset, .unset] [(.ref w_GREATER_OR_EQUAL)])) _
              refine XS.astoreN X44.here hx rfl (hb hby at_75) rfl rfl (l' := #[.val (.int p0), .val (.int p1), .val (.int ((p0 &&& (2147483647 : Int32)) % (6 : Int32))), .val (.ref w_GREATER_OR_EQUAL), .unset, .unset, .unset]) rfl ?_
              show Steps p.tables e below (T44.setTop (mkF m 76 #[.val (.int p0), .val (.int p1), .val (.int ((p0 &&& (2147483647 : Int32)) % (6 : Int32))), .val (.ref w_GREATER_OR_EQUAL), .unset, .unset, .unset] [])) _
              refine XS.bipush X44.here hx rfl (hb hby at_76) ?_
              show Steps p.tables e below (T44.setTop (mkF m 78 #[.val (.int p0), .val (.int p1), .val (.int ((p0 &&& (2147483647 : Int32)) % (6 : Int32))), .val (.ref w_GREATER_OR_EQUAL), .unset, .unset, .unset] [(.int (6 : Int32))])) _
              refine XS.istore X44.here hx rfl (hb hby at_78) rfl (l' := #[.val (.int p0), .val (.int p1), .val (.int ((p0 &&& (2147483647 : Int32)) % (6 : Int32))), .val (.ref w_GREATER_OR_EQUAL), .val (.int (6 : Int32)), .unset, .unset]) rfl ?_
              show Steps p.tables e below (T44.setTop (mkF m 80 #[.val (.int p0), .val (.int p1), .val (.int ((p0 &&& (2147483647 : Int32)) % (6 : Int32))), .val (.ref w_GREATER_OR_EQUAL), .val (.int (6 : Int32)), .unset, .unset] [])) _
              refine XS.goto X44.here hx rfl (pc0 := 80) (pc' := 90) rfl (hb hby at_80) (by decide) (by decide) ?_
              show Steps p.tables e below (T44.setTop (mkF m 90 #[.val (.int p0), .val (.int p1), .val (.int ((p0 &&& (2147483647 : Int32)) % (6 : Int32))), .val (.ref w_GREATER_OR_EQUAL), .val (.int (6 : Int32)), .unset, .unset] [])) _
              refine XS.iloadN X44.here hx rfl (hb hby at_90) rfl ?_
              exact k
            by_cases hc45 : p1 < (0 : Int32)
            · -- hc45: yes
              refine own_go (A' := (T44.setTop (mkF m 94 #[.val (.int p0), .val (.int p1), .val (.int ((p0 &&& (2147483647 : Int32)) % (6 : Int32))), .val (.ref w_GREATER_OR_EQUAL), .val (.int (6 : Int32)), .unset, .unset] []))) (fun t k => XS.ifNo X44.here hx rfl (hb hby at_91) rfl ((if0 _ _).trans (tlt hc45).2.1) k) ?_
              refine own_go (A' := (T44.setTop (mkF m 118 #[.val (.int p0), .val (.int p1), .val (.int ((p0 &&& (2147483647 : Int32)) % (6 : Int32))), .val (.ref w_GREATER_OR_EQUAL), .val (.int (6 : Int32)), .val (.int (1 : Int32)), .unset] [(.int ((6 : Int32) &&& (1 : Int32)))]))) (fun t k => ?_) ?_
              · show Steps p.tables e below (T44.setTop (mkF m 94 #[.val (.int p0), .val (.int p1), .val (.int ((p0 &&& (2147483647 : Int32)) % (6 : Int32))), .val (.ref w_GREATER_OR_EQUAL), .val (.int (6 : Int32)), .unset, .unset] [])) _
                refine XS.iconst X44.here hx rfl (hb hby at_94) ?_
                show Steps p.tables e below (T44.setTop (mkF m 95 #[.val (.int p0), .val (.int p1), .val (.int ((p0 &&& (2147483647 : Int32)) % (6 : Int32))), .val (.ref w_GREATER_OR_EQUAL), .val (.int (6 : Int32)), .unset, .unset] [(.int (1 : Int32))])) _
                refine XS.istore X44.here hx rfl (hb hby at_95) rfl (l' := #[.val (.int p0), .val (.int p1), .val (.int ((p0 &&& (2147483647 : Int32)) % (6 : Int32))), .val (.ref w_GREATER_OR_EQUAL), .val (.int (6 : Int32)), .val (.int (1 : Int32)), .unset]) rfl ?_
                show Steps p.tables e below (T44.setTop (mkF m 97 #[.val (.int p0), .val (.int p1), .val (.int ((p0 &&& (2147483647 : Int32)) % (6 : Int32))), .val (.ref w_GREATER_OR_EQUAL), .val (.int (6 : Int32)), .val (.int (1 : Int32)), .unset] [])) _
                refine XS.goto X44.here hx rfl (pc0 := 97) (pc' := 113) rfl (hb hby at_97) (by decide) (by decide) ?_
                show Steps p.tables e below (T44.setTop (mkF m 113 #[.val (.int p0), .val (.int p1), .val (.int ((p0 &&& (2147483647 : Int32)) % (6 : Int32))), .val (.ref w_GREATER_OR_EQUAL), .val (.int (6 : Int32)), .val (.int (1 : Int32)), .unset] [])) _
                refine XS.iload X44.here hx rfl (hb hby at_113) rfl ?_
                show Steps p.tables e below (T44.setTop (mkF m 115 #[.val (.int p0), .val (.int p1), .val (.int ((p0 &&& (2147483647 : Int32)) % (6 : Int32))), .val (.ref w_GREATER_OR_EQUAL), .val (.int (6 : Int32)), .val (.int (1 : Int32)), .unset] [(.int (6 : Int32))])) _
                refine XS.iload X44.here hx rfl (hb hby at_115) rfl ?_
                show Steps p.tables e below (T44.setTop (mkF m 117 #[.val (.int p0), .val (.int p1), .val (.int ((p0 &&& (2147483647 : Int32)) % (6 : Int32))), .val (.ref w_GREATER_OR_EQUAL), .val (.int (6 : Int32)), .val (.int (1 : Int32)), .unset] [(.int (1 : Int32)), (.int (6 : Int32))])) _
                refine XS.iand X44.here hx rfl (hb hby at_117) rfl ?_
                exact k
              refine own_go (A' := (T44.setTop (mkF m 125 #[.val (.int p0), .val (.int p1), .val (.int ((p0 &&& (2147483647 : Int32)) % (6 : Int32))), .val (.ref w_GREATER_OR_EQUAL), .val (.int (6 : Int32)), .val (.int (1 : Int32)), .unset] []))) (fun t k => XS.ifYes X44.here hx rfl (pc0 := 118) (pc' := 125) rfl (hb hby at_118) rfl ((if0 _ _).trans (teq (by decide : ((6 : Int32) &&& (1 : Int32)) = (0 : Int32))).1) (by decide) (by decide) k) ?_
              obtain ⟨cq46, kq46, q46a, q46b, q46c⟩ := isOf hZ e44 E_GREATER_OR_EQUAL
              obtain ⟨_, _, ⟨T46, L46, k46, n46⟩, -, X46, ⟨Lc46, hQ46, l46, y46, z46⟩, st46⟩ := X44.virtualBack hx (y := (⟨"com/example/pathwarden/pathwarden/flow/Relation", "holds", "(I)Z"⟩ : MethodName)) (z := (⟨"com/example/pathwarden/pathwarden/flow/Relation", "holds", "(I)Z"⟩ : MethodName)) hown (mvT hZ (hw _ (List.mem_of_getElem? (i := 4) rfl))) (mvT hZ (hw _ (List.mem_of_getElem? (i := 5) rfl))) (notFace_of_selects (args := #[]) (mvT hZ (hw _ (List.mem_of_getElem? (i := 7) rfl)))) (mvT hZ (hw _ (List.mem_of_getElem? (i := 7) rfl))) (mvT hZ (hw _ (List.mem_of_getElem? (i := 6) rfl))) (by decide) (backOf (W := 0) (rm1 l Z a0 hw [] w_GREATER_OR_EQUAL p1 (4 : Int32) h0 n0 Z0 O_GREATER_OR_EQUAL_ordinal E_GREATER_OR_EQUAL (by decide)) hZ (hw _ (List.mem_of_getElem? (i := 8) rfl)) (hw _ (List.mem_of_getElem? (i := 2) rfl)) (by decide) (by decide)) q46a q46c (g := (mkF m 130 #[.val (.int p0), .val (.int p1), .val (.int ((p0 &&& (2147483647 : Int32)) % (6 : Int32))), .val (.ref w_GREATER_OR_EQUAL), .val (.int (6 : Int32)), .val (.int (1 : Int32)), .val (.int (0 : Int32))] [(.int p1), (.ref w_GREATER_OR_EQUAL)])) rfl (by rw [hml]; rfl) (Steps.refl _) (argsL := [(.int p1)]) (rest := []) (lenOf pd_1 rfl) rfl (by show 2 * 0 + _ ≤ _; exact Nat.le_of_eq rfl) (hb hby at_130) (fun _ _ => ⟨rfl, e44, (by decide : 0 + 0 ≤ _), (by decide : 0 + 0 ≤ _)⟩)
              dsimp only [Pt.U, Pt.locs, Pt.cells, Pt.slots] at X46 l46 y46 z46 st46 hQ46
              subst l46 y46 z46
              obtain ⟨rfl, N46q, e46⟩ := hQ46
              have N46 := Fr.app N0 N46q
              refine own_go (A' := (T46.setTop (mkF m 135 #[.val (.int p0), .val (.int p1), .val (.int ((p0 &&& (2147483647 : Int32)) % (6 : Int32))), .val (.ref w_GREATER_OR_EQUAL), .val (.int (6 : Int32)), .val (.int (1 : Int32)), .val (.int (0 : Int32))] [(.int (0 : Int32)), (.int (hold (4 : Int32) p1))]))) (fun t k => ?_) ?_
              · show Steps p.tables e below (T44.setTop (mkF m 125 #[.val (.int p0), .val (.int p1), .val (.int ((p0 &&& (2147483647 : Int32)) % (6 : Int32))), .val (.ref w_GREATER_OR_EQUAL), .val (.int (6 : Int32)), .val (.int (1 : Int32)), .unset] [])) _
                refine XS.iconst X44.here hx rfl (hb hby at_125) ?_
                show Steps p.tables e below (T44.setTop (mkF m 126 #[.val (.int p0), .val (.int p1), .val (.int ((p0 &&& (2147483647 : Int32)) % (6 : Int32))), .val (.ref w_GREATER_OR_EQUAL), .val (.int (6 : Int32)), .val (.int (1 : Int32)), .unset] [(.int (0 : Int32))])) _
                refine XS.istore X44.here hx rfl (hb hby at_126) rfl (l' := #[.val (.int p0), .val (.int p1), .val (.int ((p0 &&& (2147483647 : Int32)) % (6 : Int32))), .val (.ref w_GREATER_OR_EQUAL), .val (.int (6 : Int32)), .val (.int (1 : Int32)), .val (.int (0 : Int32))]) rfl ?_
                show Steps p.tables e below (T44.setTop (mkF m 128 #[.val (.int p0), .val (.int p1), .val (.int ((p0 &&& (2147483647 : Int32)) % (6 : Int32))), .val (.ref w_GREATER_OR_EQUAL), .val (.int (6 : Int32)), .val (.int (1 : Int32)), .val (.int (0 : Int32))] [])) _
                refine XS.aloadN X44.here hx rfl (hb hby at_128) rfl rfl ?_
                show Steps p.tables e below (T44.setTop (mkF m 129 #[.val (.int p0), .val (.int p1), .val (.int ((p0 &&& (2147483647 : Int32)) % (6 : Int32))), .val (.ref w_GREATER_OR_EQUAL), .val (.int (6 : Int32)), .val (.int (1 : Int32)), .val (.int (0 : Int32))] [(.ref w_GREATER_OR_EQUAL)])) _
                refine XS.iloadN X44.here hx rfl (hb hby at_129) rfl ?_
                show Steps p.tables e below (T44.setTop (mkF m 130 #[.val (.int p0), .val (.int p1), .val (.int ((p0 &&& (2147483647 : Int32)) % (6 : Int32))), .val (.ref w_GREATER_OR_EQUAL), .val (.int (6 : Int32)), .val (.int (1 : Int32)), .val (.int (0 : Int32))] [(.int p1), (.ref w_GREATER_OR_EQUAL)])) _
                refine st46.trans ?_
                show Steps p.tables e below (T46.setTop (mkF m 133 #[.val (.int p0), .val (.int p1), .val (.int ((p0 &&& (2147483647 : Int32)) % (6 : Int32))), .val (.ref w_GREATER_OR_EQUAL), .val (.int (6 : Int32)), .val (.int (1 : Int32)), .val (.int (0 : Int32))] [(.int (hold (4 : Int32) p1))])) _
                refine XS.iload X46.here hx rfl (hb hby at_133) rfl ?_
                exact k
              refine own_go (A' := (T46.setTop (mkF m 138 #[.val (.int p0), .val (.int p1), .val (.int ((p0 &&& (2147483647 : Int32)) % (6 : Int32))), .val (.ref w_GREATER_OR_EQUAL), .val (.int (6 : Int32)), .val (.int (1 : Int32)), .val (.int (0 : Int32))] []))) (fun t k => XS.icmpNo X46.here hx rfl (hb hby at_135) rfl (teq (by simp [hold, hc45, (own_hA hc45).1, (own_hA hc45).2])).2 k) ?_
              refine own_go (A' := (T46.setTop (mkF m 143 #[.val (.int p0), .val (.int p1), .val (.int ((p0 &&& (2147483647 : Int32)) % (6 : Int32))), .val (.ref w_GREATER_OR_EQUAL), .val (.int (6 : Int32)), .val (.int (1 : Int32)), .val (.int (0 : Int32))] [(.int (1 : Int32))]))) (fun t k => ?_) ?_
              · show Steps p.tables e below (T46.setTop (mkF m 138 #[.val (.int p0), .val (.int p1), .val (.int ((p0 &&& (2147483647 : Int32)) % (6 : Int32))), .val (.ref w_GREATER_OR_EQUAL), .val (.int (6 : Int32)), .val (.int (1 : Int32)), .val (.int (0 : Int32))] [])) _
                refine XS.iconst X46.here hx rfl (hb hby at_138) ?_
                show Steps p.tables e below (T46.setTop (mkF m 139 #[.val (.int p0), .val (.int p1), .val (.int ((p0 &&& (2147483647 : Int32)) % (6 : Int32))), .val (.ref w_GREATER_OR_EQUAL), .val (.int (6 : Int32)), .val (.int (1 : Int32)), .val (.int (0 : Int32))] [(.int (1 : Int32))])) _
                refine XS.goto X46.here hx rfl (pc0 := 139) (pc' := 143) rfl (hb hby at_139) (by decide) (by decide) ?_
                exact k
              obtain ⟨fs, hr, hrun, hended, hW, hsame⟩ := X46.leave (v := some (.int (1 : Int32))) (fun h => by rw [Bd.returns] at h; cases h)
              refine ⟨_, _, ?_, hrun, hended, _, _, rfl, ?_, ⟨_, rfl⟩, hW, hsame.mono (by decide) (by decide)⟩
              · show Steps p.tables e below (T46.setTop (mkF m 143 #[.val (.int p0), .val (.int p1), .val (.int ((p0 &&& (2147483647 : Int32)) % (6 : Int32))), .val (.ref w_GREATER_OR_EQUAL), .val (.int (6 : Int32)), .val (.int (1 : Int32)), .val (.int (0 : Int32))] [(.int (1 : Int32))])) _
                exact retN X46 hx (t := .boolean) Bd.returns (by simp) (hb hby at_143) hr
              · show Q0 Z p0 p1 w_LESS w_EQUAL w_GREATER_OR_EQUAL w_LESS_OR_EQUAL w_GREATER w_NOT_EQUAL h0 n0 _ _ _
                exact ⟨rfl, N46⟩
            · -- hc45: no
              refine own_go (A' := (T44.setTop (mkF m 100 #[.val (.int p0), .val (.int p1), .val (.int ((p0 &&& (2147483647 : Int32)) % (6 : Int32))), .val (.ref w_GREATER_OR_EQUAL), .val (.int (6 : Int32)), .unset, .unset] []))) (fun t k => XS.ifYes X44.here hx rfl (pc0 := 91) (pc' := 100) rfl (hb hby at_91) rfl ((if0 _ _).trans (flt hc45).2.1) (by decide) (by decide) k) ?_
              refine own_go (A' := (T44.setTop (mkF m 101 #[.val (.int p0), .val (.int p1), .val (.int ((p0 &&& (2147483647 : Int32)) % (6 : Int32))), .val (.ref w_GREATER_OR_EQUAL), .val (.int (6 : Int32)), .unset, .unset] [(.int p1)]))) (fun t k => ?_) ?_
              · show Steps p.tables e below (T44.setTop (mkF m 100 #[.val (.int p0), .val (.int p1), .val (.int ((p0 &&& (2147483647 : Int32)) % (6 : Int32))), .val (.ref w_GREATER_OR_EQUAL), .val (.int (6 : Int32)), .unset, .unset] [])) _
                refine XS.iloadN X44.here hx rfl (hb hby at_100) rfl ?_
                exact k
              by_cases hc47 : p1 = (0 : Int32)
              · -- hc47: yes
                refine own_go (A' := (T44.setTop (mkF m 104 #[.val (.int p0), .val (.int p1), .val (.int ((p0 &&& (2147483647 : Int32)) % (6 : Int32))), .val (.ref w_GREATER_OR_EQUAL), .val (.int (6 : Int32)), .unset, .unset] []))) (fun t k => XS.ifNo X44.here hx rfl (hb hby at_101) rfl ((if0 _ _).trans (teq hc47).2) k) ?_
                refine own_go (A' := (T44.setTop (mkF m 118 #[.val (.int p0), .val (.int p1), .val (.int ((p0 &&& (2147483647 : Int32)) % (6 : Int32))), .val (.ref w_GREATER_OR_EQUAL), .val (.int (6 : Int32)), .val (.int (2 : Int32)), .unset] [(.int ((6 : Int32) &&& (2 : Int32)))]))) (fun t k => ?_) ?_
                · show Steps p.tables e below (T44.setTop (mkF m 104 #[.val (.int p0), .val (.int p1), .val (.int ((p0 &&& (2147483647 : Int32)) % (6 : Int32))), .val (.ref w_GREATER_OR_EQUAL), .val (.int (6 : Int32)), .unset, .unset] [])) _
                  refine XS.iconst X44.here hx rfl (hb hby at_104) ?_
                  show Steps p.tables e below (T44.setTop (mkF m 105 #[.val (.int p0), .val (.int p1), .val (.int ((p0 &&& (2147483647 : Int32)) % (6 : Int32))), .val (.ref w_GREATER_OR_EQUAL), .val (.int (6 : Int32)), .unset, .unset] [(.int (2 : Int32))])) _
                  refine XS.istore X44.here hx rfl (hb hby at_105) rfl (l' := #[.val (.int p0), .val (.int p1), .val (.int ((p0 &&& (2147483647 : Int32)) % (6 : Int32))), .val (.ref w_GREATER_OR_EQUAL), .val (.int (6 : Int32)), .val (.int (2 : Int32)), .unset]) rfl ?_
                  show Steps p.tables e below (T44.setTop (mkF m 107 #[.val (.int p0), .val (.int p1), .val (.int ((p0 &&& (2147483647 : Int32)) % (6 : Int32))), .val (.ref w_GREATER_OR_EQUAL), .val (.int (6 : Int32)), .val (.int (2 : Int32)), .unset] [])) _
                  refine XS.goto X44.here hx rfl (pc0 := 107) (pc' := 113) rfl (hb hby at_107) (by decide) (by decide) ?_
                  show Steps p.tables e below (T44.setTop (mkF m 113 #[.val (.int p0), .val (.int p1), .val (.int ((p0 &&& (2147483647 : Int32)) % (6 : Int32))), .val (.ref w_GREATER_OR_EQUAL), .val (.int (6 : Int32)), .val (.int (2 : Int32)), .unset] [])) _
                  refine XS.iload X44.here hx rfl (hb hby at_113) rfl ?_
                  show Steps p.tables e below (T44.setTop (mkF m 115 #[.val (.int p0), .val (.int p1), .val (.int ((p0 &&& (2147483647 : Int32)) % (6 : Int32))), .val (.ref w_GREATER_OR_EQUAL), .val (.int (6 : Int32)), .val (.int (2 : Int32)), .unset] [(.int (6 : Int32))])) _
                  refine XS.iload X44.here hx rfl (hb hby at_115) rfl ?_
                  show Steps p.tables e below (T44.setTop (mkF m 117 #[.val (.int p0), .val (.int p1), .val (.int ((p0 &&& (2147483647 : Int32)) % (6 : Int32))), .val (.ref w_GREATER_OR_EQUAL), .val (.int (6 : Int32)), .val (.int (2 : Int32)), .unset] [(.int (2 : Int32)), (.int (6 : Int32))])) _
                  refine XS.iand X44.here hx rfl (hb hby at_117) rfl ?_
                  exact k
                refine own_go (A' := (T44.setTop (mkF m 121 #[.val (.int p0), .val (.int p1), .val (.int ((p0 &&& (2147483647 : Int32)) % (6 : Int32))), .val (.ref w_GREATER_OR_EQUAL), .val (.int (6 : Int32)), .val (.int (2 : Int32)), .unset] []))) (fun t k => XS.ifNo X44.here hx rfl (hb hby at_118) rfl ((if0 _ _).trans (feq (by decide : ¬ (((6 : Int32) &&& (2 : Int32)) = (0 : Int32)))).1) k) ?_
                obtain ⟨cq48, kq48, q48a, q48b, q48c⟩ := isOf hZ e44 E_GREATER_OR_EQUAL
                obtain ⟨_, _, ⟨T48, L48, k48, n48⟩, -, X48, ⟨Lc48, hQ48, l48, y48, z48⟩, st48⟩ := X44.virtualBack hx (y := (⟨"com/example/pathwarden/pathwarden/flow/Relation", "holds", "(I)Z"⟩ : MethodName)) (z := (⟨"com/example/pathwarden/pathwarden/flow/Relation", "holds", "(I)Z"⟩ : MethodName)) hown (mvT hZ (hw _ (List.mem_of_getElem? (i := 4) rfl))) (mvT hZ (hw _ (List.mem_of_getElem? (i := 5) rfl))) (notFace_of_selects (args := #[]) (mvT hZ (hw _ (List.mem_of_getElem? (i := 7) rfl)))) (mvT hZ (hw _ (List.mem_of_getElem? (i := 7) rfl))) (mvT hZ (hw _ (List.mem_of_getElem? (i := 6) rfl))) (by decide) (backOf (W := 0) (rm1 l Z a0 hw [] w_GREATER_OR_EQUAL p1 (4 : Int32) h0 n0 Z0 O_GREATER_OR_EQUAL_ordinal E_GREATER_OR_EQUAL (by decide)) hZ (hw _ (List.mem_of_getElem? (i := 8) rfl)) (hw _ (List.mem_of_getElem? (i := 2) rfl)) (by decide) (by decide)) q48a q48c (g := (mkF m 130 #[.val (.int p0), .val (.int p1), .val (.int ((p0 &&& (2147483647 : Int32)) % (6 : Int32))), .val (.ref w_GREATER_OR_EQUAL), .val (.int (6 : Int32)), .val (.int (2 : Int32)), .val (.int (1 : Int32))] [(.int p1), (.ref w_GREATER_OR_EQUAL)])) rfl (by rw [hml]; rfl) (Steps.refl _) (argsL := [(.int p1)]) (rest := []) (lenOf pd_1 rfl) rfl (by show 2 * 0 + _ ≤ _; exact Nat.le_of_eq rfl) (hb hby at_130) (fun _ _ => ⟨rfl, e44, (by decide : 0 + 0 ≤ _), (by decide : 0 + 0 ≤ _)⟩)
                dsimp only [Pt.U, Pt.locs, Pt.cells, Pt.slots] at X48 l48 y48 z48 st48 hQ48
                subst l48 y48 z48
                obtain ⟨rfl, N48q, e48⟩ := hQ48
                have N48 := Fr.app N0 N48q
                refine own_go (A' := (T48.setTop (mkF m 135 #[.val (.int p0), .val (.int p1), .val (.int ((p0 &&& (2147483647 : Int32)) % (6 : Int32))), .val (.ref w_GREATER_OR_EQUAL), .val (.int (6 : Int32)), .val (.int (2 : Int32)), .val (.int (1 : Int32))] [(.int (1 : Int32)), (.int (hold (4 : Int32) p1))]))) (fun t k => ?_) ?_
                · show Steps p.tables e below (T44.setTop (mkF m 121 #[.val (.int p0), .val (.int p1), .val (.int ((p0 &&& (2147483647 : Int32)) % (6 : Int32))), .val (.ref w_GREATER_OR_EQUAL), .val (.int (6 : Int32)), .val (.int (2 : Int32)), .unset] [])) _
                  refine XS.iconst X44.here hx rfl (hb hby at_121) ?_
                  show Steps p.tables e below (T44.setTop (mkF m 122 #[.val (.int p0), .val (.int p1), .val (.int ((p0 &&& (2147483647 : Int32)) % (6 : Int32))), .val (.ref w_GREATER_OR_EQUAL), .val (.int (6 : Int32)), .val (.int (2 : Int32)), .unset] [(.int (1 : Int32))])) _
                  refine XS.goto X44.here hx rfl (pc0 := 122) (pc' := 126) rfl (hb hby at_122) (by decide) (by decide) ?_
                  show Steps p.tables e below (T44.setTop (mkF m 126 #[.val (.int p0), .val (.int p1), .val (.int ((p0 &&& (2147483647 : Int32)) % (6 : Int32))), .val (.ref w_GREATER_OR_EQUAL), .val (.int (6 : Int32)), .val (.int (2 : Int32)), .unset] [(.int (1 : Int32))])) _
                  refine XS.istore X44.here hx rfl (hb hby at_126) rfl (l' := #[.val (.int p0), .val (.int p1), .val (.int ((p0 &&& (2147483647 : Int32)) % (6 : Int32))), .val (.ref w_GREATER_OR_EQUAL), .val (.int (6 : Int32)), .val (.int (2 : Int32)), .val (.int (1 : Int32))]) rfl ?_
                  show Steps p.tables e below (T44.setTop (mkF m 128 #[.val (.int p0), .val (.int p1), .val (.int ((p0 &&& (2147483647 : Int32)) % (6 : Int32))), .val (.ref w_GREATER_OR_EQUAL), .val (.int (6 : Int32)), .val (.int (2 : Int32)), .val (.int (1 : Int32))] [])) _
                  refine XS.aloadN X44.here hx rfl (hb hby at_128) rfl rfl ?_
                  show Steps p.tables e below (T44.setTop (mkF m 129 #[.val (.int p0), .val (.int p1), .val (.int ((p0 &&& (2147483647 : Int32)) % (6 : Int32))), .val (.ref w_GREATER_OR_EQUAL), .val (.int (6 : Int32)), .val (.int (2 : Int32)), .val (.int (1 : Int32))] [(.ref w_GREATER_OR_EQUAL)])) _
                  refine XS.iloadN X44.here hx rfl (hb hby at_129) rfl ?_
                  show Steps p.tables e below (T44.setTop (mkF m 130 #[.val (.int p0), .val (.int p1), .val (.int ((p0 &&& (2147483647 : Int32)) % (6 : Int32))), .val (.ref w_GREATER_OR_EQUAL), .val (.int (6 : Int32)), .val (.int (2 : Int32)), .val (.int (1 : Int32))] [(.int p1), (.ref w_GREATER_OR_EQUAL)])) _
                  refine st48.trans ?_
                  show Steps p.tables e below (T48.setTop (mkF m 133 #[.val (.int p0), .val (.int p1), .val (.int ((p0 &&& (2147483647 : Int32)) % (6 : Int32))), .val (.ref w_GREATER_OR_EQUAL), .val (.int (6 : Int32)), .val (.int (2 : Int32)), .val (.int (1 : Int32))] [(.int (hold (4 : Int32) p1))])) _
                  refine XS.iload X48.here hx rfl (hb hby at_133) rfl ?_
                  exact k
                refine own_go (A' := (T48.setTop (mkF m 138 #[.val (.int p0), .val (.int p1), .val (.int ((p0 &&& (2147483647 : Int32)) % (6 : Int32))), .val (.ref w_GREATER_OR_EQUAL), .val (.int (6 : Int32)), .val (.int (2 : Int32)), .val (.int (1 : Int32))] []))) (fun t k => XS.icmpNo X48.here hx rfl (hb hby at_135) rfl (teq (by simp [hold, hc47])).2 k) ?_
                refine own_go (A' := (T48.setTop (mkF m 143 #[.val (.int p0), .val (.int p1), .val (.int ((p0 &&& (2147483647 : Int32)) % (6 : Int32))), .val (.ref w_GREATER_OR_EQUAL), .val (.int (6 : Int32)), .val (.int (2 : Int32)), .val (.int (1 : Int32))] [(.int (1 : Int32))]))) (fun t k => ?_) ?_
                · show Steps p.tables e below (T48.setTop (mkF m 138 #[.val (.int p0), .val (.int p1), .val (.int ((p0 &&& (2147483647 : Int32)) % (6 : Int32))), .val (.ref w_GREATER_OR_EQUAL), .val (.int (6 : Int32)), .val (.int (2 : Int32)), .val (.int (1 : Int32))] [])) _
                  refine XS.iconst X48.here hx rfl (hb hby at_138) ?_
                  show Steps p.tables e below (T48.setTop (mkF m 139 #[.val (.int p0), .val (.int p1), .val (.int ((p0 &&& (2147483647 : Int32)) % (6 : Int32))), .val (.ref w_GREATER_OR_EQUAL), .val (.int (6 : Int32)), .val (.int (2 : Int32)), .val (.int (1 : Int32))] [(.int (1 : Int32))])) _
                  refine XS.goto X48.here hx rfl (pc0 := 139) (pc' := 143) rfl (hb hby at_139) (by decide) (by decide) ?_
                  exact k
                obtain ⟨fs, hr, hrun, hended, hW, hsame⟩ := X48.leave (v := some (.int (1 : Int32))) (fun h => by rw [Bd.returns] at h; cases h)
                refine ⟨_, _, ?_, hrun, hended, _, _, rfl, ?_, ⟨_, rfl⟩, hW, hsame.mono (by decide) (by decide)⟩
                · show Steps p.tables e below (T48.setTop (mkF m 143 #[.val (.int p0), .val (.int p1), .val (.int ((p0 &&& (2147483647 : Int32)) % (6 : Int32))), .val (.ref w_GREATER_OR_EQUAL), .val (.int (6 : Int32)), .val (.int (2 : Int32)), .val (.int (1 : Int32))] [(.int (1 : Int32))])) _
                  exact retN X48 hx (t := .boolean) Bd.returns (by simp) (hb hby at_143) hr
                · show Q0 Z p0 p1 w_LESS w_EQUAL w_GREATER_OR_EQUAL w_LESS_OR_EQUAL w_GREATER w_NOT_EQUAL h0 n0 _ _ _
                  exact ⟨rfl, N48⟩
              · -- hc47: no
                refine own_go (A' := (T44.setTop (mkF m 110 #[.val (.int p0), .val (.int p1), .val (.int ((p0 &&& (2147483647 : Int32)) % (6 : Int32))), .val (.ref w_GREATER_OR_EQUAL), .val (.int (6 : Int32)), .unset, .unset] []))) (fun t k => XS.ifYes X44.here hx rfl (pc0 := 101) (pc' := 110) rfl (hb hby at_101) rfl ((if0 _ _).trans (feq hc47).2) (by decide) (by decide) k) ?_
                refine own_go (A' := (T44.setTop (mkF m 118 #[.val (.int p0), .val (.int p1), .val (.int ((p0 &&& (2147483647 : Int32)) % (6 : Int32))), .val (.ref w_GREATER_OR_EQUAL), .val (.int (6 : Int32)), .val (.int (4 : Int32)), .unset] [(.int ((6 : Int32) &&& (4 : Int32)))]))) (fun t k => ?_) ?_
                · show Steps p.tables e below (T44.setTop (mkF m 110 #[.val (.int p0), .val (.int p1), .val (.int ((p0 &&& (2147483647 : Int32)) % (6 : Int32))), .val (.ref w_GREATER_OR_EQUAL), .val (.int (6 : Int32)), .unset, .unset] [])) _
                  refine XS.iconst X44.here hx rfl (hb hby at_110) ?_
                  show Steps p.tables e below (T44.setTop (mkF m 111 #[.val (.int p0), .val (.int p1), .val (.int ((p0 &&& (2147483647 : Int32)) % (6 : Int32))), .val (.ref w_GREATER_OR_EQUAL), .val (.int (6 : Int32)), .unset, .unset] [(.int (4 : Int32))])) _
                  refine XS.istore X44.here hx rfl (hb hby at_111) rfl (l' := #[.val (.int p0), .val (.int p1), .val (.int ((p0 &&& (2147483647 : Int32)) % (6 : Int32))), .val (.ref w_GREATER_OR_EQUAL), .val (.int (6 : Int32)), .val (.int (4 : Int32)), .unset]) rfl ?_
                  show Steps p.tables e below (T44.setTop (mkF m 113 #[.val (.int p0), .val (.int p1), .val (.int ((p0 &&& (2147483647 : Int32)) % (6 : Int32))), .val (.ref w_GREATER_OR_EQUAL), .val (.int (6 : Int32)), .val (.int (4 : Int32)), .unset] [])) _
                  refine XS.iload X44.here hx rfl (hb hby at_113) rfl ?_
                  show Steps p.tables e below (T44.setTop (mkF m 115 #[.val (.int p0), .val (.int p1), .val (.int ((p0 &&& (2147483647 : Int32)) % (6 : Int32))), .val (.ref w_GREATER_OR_EQUAL), .val (.int (6 : Int32)), .val (.int (4 : Int32)), .unset] [(.int (6 : Int32))])) _
                  refine XS.iload X44.here hx rfl (hb hby at_115) rfl ?_
                  show Steps p.tables e below (T44.setTop (mkF m 117 #[.val (.int p0), .val (.int p1), .val (.int ((p0 &&& (2147483647 : Int32)) % (6 : Int32))), .val (.ref w_GREATER_OR_EQUAL), .val (.int (6 : Int32)), .val (.int (4 : Int32)), .unset] [(.int (4 : Int32)), (.int (6 : Int32))])) _
                  refine XS.iand X44.here hx rfl (hb hby at_117) rfl ?_
                  exact k
                refine own_go (A' := (T44.setTop (mkF m 121 #[.val (.int p0), .val (.int p1), .val (.int ((p0 &&& (2147483647 : Int32)) % (6 : Int32))), .val (.ref w_GREATER_OR_EQUAL), .val (.int (6 : Int32)), .val (.int (4 : Int32)), .unset] []))) (fun t k => XS.ifNo X44.here hx rfl (hb hby at_118) rfl ((if0 _ _).trans (feq (by decide : ¬ (((6 : Int32) &&& (4 : Int32)) = (0 : Int32)))).1) k) ?_
                obtain ⟨cq49, kq49, q49a, q49b, q49c⟩ := isOf hZ e44 E_GREATER_OR_EQUAL
                obtain ⟨_, _, ⟨T49, L49, k49, n49⟩, -, X49, ⟨Lc49, hQ49, l49, y49, z49⟩, st49⟩ := X44.virtualBack hx (y := (⟨"com/example/pathwarden/pathwarden/flow/Relation", "holds", "(I)Z"⟩ : MethodName)) (z := (⟨"com/example/pathwarden/pathwarden/flow/Relation", "holds", "(I)Z"⟩ : MethodName)) hown (mvT hZ (hw _ (List.mem_of_getElem? (i := 4) rfl))) (mvT hZ (hw _ (List.mem_of_getElem? (i := 5) rfl))) (notFace_of_selects (args := #[]) (mvT hZ (hw _ (List.mem_of_getElem? (i := 7) rfl)))) (mvT hZ (hw _ (List.mem_of_getElem? (i := 7) rfl))) (mvT hZ (hw _ (List.mem_of_getElem? (i := 6) rfl))) (by decide) (backOf (W := 0) (rm1 l Z a0 hw [] w_GREATER_OR_EQUAL p1 (4 : Int32) h0 n0 Z0 O_GREATER_OR_EQUAL_ordinal E_GREATER_OR_EQUAL (by decide)) hZ (hw _ (List.mem_of_getElem? (i := 8) rfl)) (hw _ (List.mem_of_getElem? (i := 2) rfl)) (by decide) (by decide)) q49a q49c (g := (mkF m 130 #[.val (.int p0), .val (.int p1), .val (.int ((p0 &&& (2147483647 : Int32)) % (6 : Int32))), .val (.ref w_GREATER_OR_EQUAL), .val (.int (6 : Int32)), .val (.int (4 : Int32)), .val (.int (1 : Int32))] [(.int p1), (.ref w_GREATER_OR_EQUAL)])) rfl (by rw [hml]; rfl) (Steps.refl _) (argsL := [(.int p1)]) (rest := []) (lenOf pd_1 rfl) rfl (by show 2 * 0 + _ ≤ _; exact Nat.le_of_eq rfl) (hb hby at_130) (fun _ _ => ⟨rfl, e44, (by decide : 0 + 0 ≤ _), (by decide : 0 + 0 ≤ _)⟩)
                dsimp only [Pt.U, Pt.locs, Pt.cells, Pt.slots] at X49 l49 y49 z49 st49 hQ49
                subst l49 y49 z49
                obtain ⟨rfl, N49q, e49⟩ := hQ49
                have N49 := Fr.app N0 N49q
                refine own_go (A' := (T49.setTop (mkF m 135 #[.val (.int p0), .val (.int p1), .val (.int ((p0 &&& (2147483647 : Int32)) % (6 : Int32))), .val (.ref w_GREATER_OR_EQUAL), .val (.int (6 : Int32)), .val (.int (4 : Int32)), .val (.int (1 : Int32))] [(.int (1 : Int32)), (.int (hold (4 : Int32) p1))]))) (fun t k => ?_) ?_
                · show Steps p.tables e below (T44.setTop (mkF m 121 #[.val (.int p0), .val (.int p1), .val (.int ((p0 &&& (2147483647 : Int32)) % (6 : Int32))), .val (.ref w_GREATER_OR_EQUAL), .val (.int (6 : Int32)), .val (.int (4 : Int32)), .unset] [])) _
                  refine XS.iconst X44.here hx rfl (hb hby at_121) ?_
                  show Steps p.tables e below (T44.setTop (mkF m 122 #[.val (.int p0), .val (.int p1), .val (.int ((p0 &&& (2147483647 : Int32)) % (6 : Int32))), .val (.ref w_GREATER_OR_EQUAL), .val (.int (6 : Int32)), .val (.int (4 : Int32)), .unset] [(.int (1 : Int32))])) _
                  refine XS.goto X44.here hx rfl (pc0 := 122) (pc' := 126) rfl (hb hby at_122) (by decide) (by decide) ?_
                  show Steps p.tables e below (T44.setTop (mkF m 126 #[.val (.int p0), .val (.int p1), .val (.int ((p0 &&& (2147483647 : Int32)) % (6 : Int32))), .val (.ref w_GREATER_OR_EQUAL), .val (.int (6 : Int32)), .val (.int (4 : Int32)), .unset] [(.int (1 : Int32))])) _
                  refine XS.istore X44.here hx rfl (hb hby at_126) rfl (l' := #[.val (.int p0), .val (.int p1), .val (.int ((p0 &&& (2147483647 : Int32)) % (6 : Int32))), .val (.ref w_GREATER_OR_EQUAL), .val (.int (6 : Int32)), .val (.int (4 : Int32)), .val (.int (1 : Int32))]) rfl ?_
                  show Steps p.tables e below (T44.setTop (mkF m 128 #[.val (.int p0), .val (.int p1), .val (.int ((p0 &&& (2147483647 : Int32)) % (6 : Int32))), .val (.ref w_GREATER_OR_EQUAL), .val (.int (6 : Int32)), .val (.int (4 : Int32)), .val (.int (1 : Int32))] [])) _
                  refine XS.aloadN X44.here hx rfl (hb hby at_128) rfl rfl ?_
                  show Steps p.tables e below (T44.setTop (mkF m 129 #[.val (.int p0), .val (.int p1), .val (.int ((p0 &&& (2147483647 : Int32)) % (6 : Int32))), .val (.ref w_GREATER_OR_EQUAL), .val (.int (6 : Int32)), .val (.int (4 : Int32)), .val (.int (1 : Int32))] [(.ref w_GREATER_OR_EQUAL)])) _
                  refine XS.iloadN X44.here hx rfl (hb hby at_129) rfl ?_
                  show Steps p.tables e below (T44.setTop (mkF m 130 #[.val (.int p0), .val (.int p1), .val (.int ((p0 &&& (2147483647 : Int32)) % (6 : Int32))), .val (.ref w_GREATER_OR_EQUAL), .val (.int (6 : Int32)), .val (.int (4 : Int32)), .val (.int (1 : Int32))] [(.int p1), (.ref w_GREATER_OR_EQUAL)])) _
                  refine st49.trans ?_
                  show Steps p.tables e below (T49.setTop (mkF m 133 #[.val (.int p0), .val (.int p1), .val (.int ((p0 &&& (2147483647 : Int32)) % (6 : Int32))), .val (.ref w_GREATER_OR_EQUAL), .val (.int (6 : Int32)), .val (.int (4 : Int32)), .val (.int (1 : Int32))] [(.int (hold (4 : Int32) p1))])) _
                  refine XS.iload X49.here hx rfl (hb hby at_133) rfl ?_
                  exact k
                refine own_go (A' := (T49.setTop (mkF m 138 #[.val (.int p0), .val (.int p1), .val (.int ((p0 &&& (2147483647 : Int32)) % (6 : Int32))), .val (.ref w_GREATER_OR_EQUAL), .val (.int (6 : Int32)), .val (.int (4 : Int32)), .val (.int (1 : Int32))] []))) (fun t k => XS.icmpNo X49.here hx rfl (hb hby at_135) rfl (teq (by simp [hold, hc45, hc47, own_hC hc45 hc47])).2 k) ?_
                refine own_go (A' := (T49.setTop (mkF m 143 #[.val (.int p0), .val (.int p1), .val (.int ((p0 &&& (2147483647 : Int32)) % (6 : Int32))), .val (.ref w_GREATER_OR_EQUAL), .val (.int (6 : Int32)), .val (.int (4 : Int32)), .val (.int (1 : Int32))] [(.int (1 : Int32))]))) (fun t k => ?_) ?_
                · show Steps p.tables e below (T49.setTop (mkF m 138 #[.val (.int p0), .val (.int p1), .val (.int ((p0 &&& (2147483647 : Int32)) % (6 : Int32))), .val (.ref w_GREATER_OR_EQUAL), .val (.int (6 : Int32)), .val (.int (4 : Int32)), .val (.int (1 : Int32))] [])) _
                  refine XS.iconst X49.here hx rfl (hb hby at_138) ?_
                  show Steps p.tables e below (T49.setTop (mkF m 139 #[.val (.int p0), .val (.int p1), .val (.int ((p0 &&& (2147483647 : Int32)) % (6 : Int32))), .val (.ref w_GREATER_OR_EQUAL), .val (.int (6 : Int32)), .val (.int (4 : Int32)), .val (.int (1 : Int32))] [(.int (1 : Int32))])) _
                  refine XS.goto X49.here hx rfl (pc0 := 139) (pc' := 143) rfl (hb hby at_139) (by decide) (by decide) ?_
                  exact k
                obtain ⟨fs, hr, hrun, hended, hW, hsame⟩ := X49.leave (v := some (.int (1 : Int32))) (fun h => by rw [Bd.returns] at h; cases h)
                refine ⟨_, _, ?_, hrun, hended, _, _, rfl, ?_, ⟨_, rfl⟩, hW, hsame.mono (by decide) (by decide)⟩
                · show Steps p.tables e below (T49.setTop (mkF m 143 #[.val (.int p0), .val (.int p1), .val (.int ((p0 &&& (2147483647 : Int32)) % (6 : Int32))), .val (.ref w_GREATER_OR_EQUAL), .val (.int (6 : Int32)), .val (.int (4 : Int32)), .val (.int (1 : Int32))] [(.int (1 : Int32))])) _
                  exact retN X49 hx (t := .boolean) Bd.returns (by simp) (hb hby at_143) hr
                · show Q0 Z p0 p1 w_LESS w_EQUAL w_GREATER_OR_EQUAL w_LESS_OR_EQUAL w_GREATER w_NOT_EQUAL h0 n0 _ _ _
                  exact ⟨rfl, N49⟩
          · -- hc43: no
            refine own_go (A' := (s₁.setTop (mkF m 83 #[.val (.int p0), .val (.int p1), .val (.int ((p0 &&& (2147483647 : Int32)) % (6 : Int32))), .unset, .unset, .unset, .unset] []))) (fun t k => XS.icmpYes X0.here hx rfl (pc0 := 69) (pc' := 83) rfl (hb hby at_69) rfl (feq hc43).2 (by decide) (by decide) k) ?_
            obtain ⟨T50, X50, e50, st50⟩ := getS2 X0 hx hZ hown (host := "") (Or.inl (hw _ (List.mem_of_getElem? (i := 24) rfl))) Via.refl e0 S_GREATER (g := (mkF m 83 #[.val (.int p0), .val (.int p1), .val (.int ((p0 &&& (2147483647 : Int32)) % (6 : Int32))), .unset, .unset, .unset, .unset] [])) rfl (hb hby at_83)
            refine own_go (A' := (T50.setTop (mkF m 91 #[.val (.int p0), .val (.int p1), .val (.int ((p0 &&& (2147483647 : Int32)) % (6 : Int32))), .val (.ref w_GREATER), .val (.int (4 : Int32)), .unset, .unset] [(.int p1)]))) (fun t k => ?_) ?_
            · show Steps p.tables e below (s₁.setTop (mkF m 83 #[.val (.int p0), .val (.int p1), .val (.int ((p0 &&& (2147483647 : Int32)) % (6 : Int32))), .unset, .unset, .unset, .unset] [])) _
              refine st50 _ ?_
              show Steps p.tables e below (T50.setTop (mkF m 86 #[.val (.int p0), .val (.int p1), .val (.int ((p0 &&& (2147483647 : Int32)) % (6 : Int32))), .unset, .unset, .unset, .unset] [(.ref w_GREATER)])) _
              refine XS.astoreN X50.here hx rfl (hb hby at_86) rfl rfl (l' := #[.val (.int p0), .val (.int p1), .val (.int ((p0 &&& (2147483647 : Int32)) % (6 : Int32))), .val (.ref w_GREATER), .unset, .unset, .unset]) rfl ?_
              show Steps p.tables e below (T50.setTop (mkF m 87 #[.val (.int p0), .val (.int p1), .val (.int ((p0 &&& (2147483647 : Int32)) % (6 : Int32))), .val (.ref w_GREATER), .unset, .unset, .unset] [])) _
              refine XS.iconst X50.here hx rfl (hb hby at_87) ?_
              show Steps p.tables e below (T50.setTop (mkF m 88 #[.val (.int p0), .val (.int p1), .val (.int ((p0 &&& (2147483647 : Int32)) % (6 : Int32))), .val (.ref w_GREATER), .unset, .unset, .unset] [(.int (4 : Int32))])) _
              refine XS.istore X50.here hx rfl (hb hby at_88) rfl (l' := #[.val (.int p0), .val (.int p1), .val (.int ((p0 &&& (2147483647 : Int32)) % (6 : Int32))), .val (.ref w_GREATER), .val (.int (4 : Int32)), .unset, .unset]) rfl ?_
              show Steps p.tables e below (T50.setTop (mkF m 90 #[.val (.int p0), .val (.int p1), .val (.int ((p0 &&& (2147483647 : Int32)) % (6 : Int32))), .val (.ref w_GREATER), .val (.int (4 : Int32)), .unset, .unset] [])) _
              refine XS.iloadN X50.here hx rfl (hb hby at_90) rfl ?_
              exact k
            by_cases hc51 : p1 < (0 : Int32)
            · -- hc51: yes
              refine own_go (A' := (T50.setTop (mkF m 94 #[.val (.int p0), .val (.int p1), .val (.int ((p0 &&& (2147483647 : Int32)) % (6 : Int32))), .val (.ref w_GREATER), .val (.int (4 : Int32)), .unset, .unset] []))) (fun t k => XS.ifNo X50.here hx rfl (hb hby at_91) rfl ((if0 _ _).trans (tlt hc51).2.1) k) ?_
              refine own_go (A' := (T50.setTop (mkF m 118 #[.val (.int p0), .val (.int p1), .val (.int ((p0 &&& (2147483647 : Int32)) % (6 : Int32))), .val (.ref w_GREATER), .val (.int (4 : Int32)), .val (.int (1 : Int32)), .unset] [(.int ((4 : Int32) &&& (1 : Int32)))]))) (fun t k => ?_) ?_
              · show Steps p.tables e below (T50.setTop (mkF m 94 #[.val (.int p0), .val (.int p1), .val (.int ((p0 &&& (2147483647 : Int32)) % (6 : Int32))), .val (.ref w_GREATER), .val (.int (4 : Int32)), .unset, .unset] [])) _
                refine XS.iconst X50.here hx rfl (hb hby at_94) ?_
                show Steps p.tables e below (T50.setTop (mkF m 95 #[.val (.int p0), .val (.int p1), .val (.int ((p0 &&& (2147483647 : Int32)) % (6 : Int32))), .val (.ref w_GREATER), .val (.int (4 : Int32)), .unset, .unset] [(.int (1 : Int32))])) _
                refine XS.istore X50.here hx rfl (hb hby at_95) rfl (l' := #[.val (.int p0), .val (.int p1), .val (.int ((p0 &&& (2147483647 : Int32)) % (6 : Int32))), .val (.ref w_GREATER), .val (.int (4 : Int32)), .val (.int (1 : Int32)), .unset]) rfl ?_
                show Steps p.tables e below (T50.setTop (mkF m 97 #[.val (.int p0), .val (.int p1), .val (.int ((p0 &&& (2147483647 : Int32)) % (6 : Int32))), .val (.ref w_GREATER), .val (.int (4 : Int32)), .val (.int (1 : Int32)), .unset] [])) _
                refine XS.goto X50.here hx rfl (pc0 := 97) (pc' := 113) rfl (hb hby at_97) (by decide) (by decide) ?_
                show Steps p.tables e below (T50.setTop (mkF m 113 #[.val (.int p0), .val (.int p1), .val (.int ((p0 &&& (2147483647 : Int32)) % (6 : Int32))), .val (.ref w_GREATER), .val (.int (4 : Int32)), .val (.int (1 : Int32)), .unset] [])) _
                refine XS.iload X50.here hx rfl (hb hby at_113) rfl ?_
                show Steps p.tables e below (T50.setTop (mkF m 115 #[.val (.int p0), .val (.int p1), .val (.int ((p0 &&& (2147483647 : Int32)) % (6 : Int32))), .val (.ref w_GREATER), .val (.int (4 : Int32)), .val (.int (1 : Int32)), .unset] [(.int (4 : Int32))])) _
                refine XS.iload X50.here hx rfl (hb hby at_115) rfl ?_
                show Steps p.tables e below (T50.setTop (mkF m 117 #[.val (.int p0), .val (.int p1), .val (.int ((p0 &&& (2147483647 : Int32)) % (6 : Int32))), .val (.ref w_GREATER), .val (.int (4 : Int32)), .val (.int (1 : Int32)), .unset] [(.int (1 : Int32)), (.int (4 : Int32))])) _
                refine XS.iand X50.here hx rfl (hb hby at_117) rfl ?_
                exact k
              refine own_go (A' := (T50.setTop (mkF m 125 #[.val (.int p0), .val (.int p1), .val (.int ((p0 &&& (2147483647 : Int32)) % (6 : Int32))), .val (.ref w_GREATER), .val (.int (4 : Int32)), .val (.int (1 : Int32)), .unset] []))) (fun t k => XS.ifYes X50.here hx rfl (pc0 := 118) (pc' := 125) rfl (hb hby at_118) rfl ((if0 _ _).trans (teq (by decide : ((4 : Int32) &&& (1 : Int32)) = (0 : Int32))).1) (by decide) (by decide) k) ?_
              obtain ⟨cq52, kq52, q52a, q52b, q52c⟩ := isOf hZ e50 E_GREATER
              obtain ⟨_, _, ⟨T52, L52, k52, n52⟩, -, X52, ⟨Lc52, hQ52, l52, y52, z52⟩, st52⟩ := X50.virtualBack hx (y := (⟨"com/example/pathwarden/pathwarden/flow/Relation", "holds", "(I)Z"⟩ : MethodName)) (z := (⟨"com/example/pathwarden/pathwarden/flow/Relation", "holds", "(I)Z"⟩ : MethodName)) hown (mvT hZ (hw _ (List.mem_of_getElem? (i := 4) rfl))) (mvT hZ (hw _ (List.mem_of_getElem? (i := 5) rfl))) (notFace_of_selects (args := #[]) (mvT hZ (hw _ (List.mem_of_getElem? (i := 7) rfl)))) (mvT hZ (hw _ (List.mem_of_getElem? (i := 7) rfl))) (mvT hZ (hw _ (List.mem_of_getElem? (i := 6) rfl))) (by decide) (backOf (W := 0) (rm1 l Z a0 hw [] w_GREATER p1 (5 : Int32) h0 n0 Z0 O_GREATER_ordinal E_GREATER (by decide)) hZ (hw _ (List.mem_of_getElem? (i := 8) rfl)) (hw _ (List.mem_of_getElem? (i := 2) rfl)) (by decide) (by decide)) q52a q52c (g := (mkF m 130 #[.val (.int p0), .val (.int p1), .val (.int ((p0 &&& (2147483647 : Int32)) % (6 : Int32))), .val (.ref w_GREATER), .val (.int (4 : Int32)), .val (.int (1 : Int32)), .val (.int (0 : Int32))] [(.int p1), (.ref w_GREATER)])) rfl (by rw [hml]; rfl) (Steps.refl _) (argsL := [(.int p1)]) (rest := []) (lenOf pd_1 rfl) rfl (by show 2 * 0 + _ ≤ _; exact Nat.le_of_eq rfl) (hb hby at_130) (fun _ _ => ⟨rfl, e50, (by decide : 0 + 0 ≤ _), (by decide : 0 + 0 ≤ _)⟩)
              dsimp only [Pt.U, Pt.locs, Pt.cells, Pt.slots] at X52 l52 y52 z52 st52 hQ52
              subst l52 y52 z52
              obtain ⟨rfl, N52q, e52⟩ := hQ52
              have N52 := Fr.app N0 N52q
              refine own_go (A' := (T52.setTop (mkF m 135 #[.val (.int p0), .val (.int p1), .val (.int ((p0 &&& (2147483647 : Int32)) % (6 : Int32))), .val (.ref w_GREATER), .val (.int (4 : Int32)), .val (.int (1 : Int32)), .val (.int (0 : Int32))] [(.int (0 : Int32)), (.int (hold (5 : Int32) p1))]))) (fun t k => ?_) ?_
              · show Steps p.tables e below (T50.setTop (mkF m 125 #[.val (.int p0), .val (.int p1), .val (.int ((p0 &&& (2147483647 : Int32)) % (6 : Int32))), .val (.ref w_GREATER), .val (.int (4 : Int32)), .val (.int (1 : Int32)), .unset] [])) _
                refine XS.iconst X50.here hx rfl (hb hby at_125) ?_
                show Steps p.tables e below (T50.setTop (mkF m 126 #[.val (.int p0), .val (.int p1), .val (.int ((p0 &&& (2147483647 : Int32)) % (6 : Int32))), .val (.ref w_GREATER), .val (.int (4 : Int32)), .val (.int (1 : Int32)), .unset] [(.int (0 : Int32))])) _
                refine XS.istore X50.here hx rfl (hb hby at_126) rfl (l' := #[.val (.int p0), .val (.int p1), .val (.int ((p0 &&& (2147483647 : Int32)) % (6 : Int32))), .val (.ref w_GREATER), .val (.int (4 : Int32)), .val (.int (1 : Int32)), .val (.int (0 : Int32))]) rfl ?_
                show Steps p.tables e below (T50.setTop (mkF m 128 #[.val (.int p0), .val (.int p1), .val (.int ((p0 &&& (2147483647 : Int32)) % (6 : Int32))), .val (.ref w_GREATER), .val (.int (4 : Int32)), .val (.int (1 : Int32)), .val (.int (0 : Int32))] [])) _
                refine XS.aloadN X50.here hx rfl (hb hby at_128) rfl rfl ?_
                show Steps p.tables e below (T50.setTop (mkF m 129 #[.val (.int p0), .val (.int p1), .val (.int ((p0 &&& (2147483647 : Int32)) % (6 : Int32))), .val (.ref w_GREATER), .val (.int (4 : Int32)), .val (.int (1 : Int32)), .val (.int (0 : Int32))] [(.ref w_GREATER)])) _
                refine XS.iloadN X50.here hx rfl (hb hby at_129) rfl ?_
                show Steps p.tables e below (T50.setTop (mkF m 130 #[.val (.int p0), .val (.int p1), .val (.int ((p0 &&& (2147483647 : Int32)) % (6 : Int32))), .val (.ref w_GREATER), .val (.int (4 : Int32)), .val (.int (1 : Int32)), .val (.int (0 : Int32))] [(.int p1), (.ref w_GREATER)])) _
                refine st52.trans ?_
                show Steps p.tables e below (T52.setTop (mkF m 133 #[.val (.int p0), .val (.int p1), .val (.int ((p0 &&& (2147483647 : Int32)) % (6 : Int32))), .val (.ref w_GREATER), .val (.int (4 : Int32)), .val (.int (1 : Int32)), .val (.int (0 : Int32))] [(.int (hold (5 : Int32) p1))])) _
                refine XS.iload X52.here hx rfl (hb hby at_133) rfl ?_
                exact k
              refine own_go (A' := (T52.setTop (mkF m 138 #[.val (.int p0), .val (.int p1), .val (.int ((p0 &&& (2147483647 : Int32)) % (6 : Int32))), .val (.ref w_GREATER), .val (.int (4 : Int32)), .val (.int (1 : Int32)), .val (.int (0 : Int32))] []))) (fun t k => XS.icmpNo X52.here hx rfl (hb hby at_135) rfl (teq (by simp [hold, hc51, (own_hA hc51).1, (own_hA hc51).2])).2 k) ?_
              refine own_go (A' := (T52.setTop (mkF m 143 #[.val (.int p0), .val (.int p1), .val (.int ((p0 &&& (2147483647 : Int32)) % (6 : Int32))), .val (.ref w_GREATER), .val (.int (4 : Int32)), .val (.int (1 : Int32)), .val (.int (0 : Int32))] [(.int (1 : Int32))]))) (fun t k => ?_) ?_
              · show Steps p.tables e below (T52.setTop (mkF m 138 #[.val (.int p0), .val (.int p1), .val (.int ((p0 &&& (2147483647 : Int32)) % (6 : Int32))), .val (.ref w_GREATER), .val (.int (4 : Int32)), .val (.int (1 : Int32)), .val (.int (0 : Int32))] [])) _
                refine XS.iconst X52.here hx rfl (hb hby at_138) ?_
                show Steps p.tables e below (T52.setTop (mkF m 139 #[.val (.int p0), .val (.int p1), .val (.int ((p0 &&& (2147483647 : Int32)) % (6 : Int32))), .val (.ref w_GREATER), .val (.int (4 : Int32)), .val (.int (1 : Int32)), .val (.int (0 : Int32))] [(.int (1 : Int32))])) _
                refine XS.goto X52.here hx rfl (pc0 := 139) (pc' := 143) rfl (hb hby at_139) (by decide) (by decide) ?_
                exact k
              obtain ⟨fs, hr, hrun, hended, hW, hsame⟩ := X52.leave (v := some (.int (1 : Int32))) (fun h => by rw [Bd.returns] at h; cases h)
              refine ⟨_, _, ?_, hrun, hended, _, _, rfl, ?_, ⟨_, rfl⟩, hW, hsame.mono (by decide) (by decide)⟩
              · show Steps p.tables e below (T52.setTop (mkF m 143 #[.val (.int p0), .val (.int p1), .val (.int ((p0 &&& (2147483647 : Int32)) % (6 : Int32))), .val (.ref w_GREATER), .val (.int (4 : Int32)), .val (.int (1 : Int32)), .val (.int (0 : Int32))] [(.int (1 : Int32))])) _
                exact retN X52 hx (t := .boolean) Bd.returns (by simp) (hb hby at_143) hr
              · show Q0 Z p0 p1 w_LESS w_EQUAL w_GREATER_OR_EQUAL w_LESS_OR_EQUAL w_GREATER w_NOT_EQUAL h0 n0 _ _ _
                exact ⟨rfl, N52⟩
            · -- hc51: no
              refine own_go (A' := (T50.setTop (mkF m 100 #[.val (.int p0), .val (.int p1), .val (.int ((p0 &&& (2147483647 : Int32)) % (6 : Int32))), .val (.ref w_GREATER), .val (.int (4 : Int32)), .unset, .unset] []))) (fun t k => XS.ifYes X50.here hx rfl (pc0 := 91) (pc' := 100) rfl (hb hby at_91) rfl ((if0 _ _).trans (flt hc51).2.1) (by decide) (by decide) k) ?_
              refine own_go (A' := (T50.setTop (mkF m 101 #[.val (.int p0), .val (.int p1), .val (.int ((p0 &&& (2147483647 : Int32)) % (6 : Int32))), .val (.ref w_GREATER), .val (.int (4 : Int32)), .unset, .unset] [(.int p1)]))) (fun t k => ?_) ?_
              · show Steps p.tables e below (T50.setTop (mkF m 100 #[.val (.int p0), .val (.int p1), .val (.int ((p0 &&& (2147483647 : Int32)) % (6 : Int32))), .val (.ref w_GREATER), .val (.int (4 : Int32)), .unset, .unset] [])) _
                refine XS.iloadN X50.here hx rfl (hb hby at_100) rfl ?_
                exact k
              by_cases hc53 : p1 = (0 : Int32)
              · -- hc53: yes
                refine own_go (A' := (T50.setTop (mkF m 104 #[.val (.int p0), .val (.int p1), .val (.int ((p0 &&& (2147483647 : Int32)) % (6 : Int32))), .val (.ref w_GREATER), .val (.int (4 : Int32)), .unset, .unset] []))) (fun t k => XS.ifNo X50.here hx rfl (hb hby at_101) rfl ((if0 _ _).trans (teq hc53).2) k) ?_
                refine own_go (A' := (T50.setTop (mkF m 118 #[.val (.int p0), .val (.int p1), .val (.int ((p0 &&& (2147483647 : Int32)) % (6 : Int32))), .val (.ref w_GREATER), .val (.int (4 : Int32)), .val (.int (2 : Int32)), .unset] [(.int ((4 : Int32) &&& (2 : Int32)))]))) (fun t k => ?_) ?_
                · show Steps p.tables e below (T50.setTop (mkF m 104 #[.val (.int p0), .val (.int p1), .val (.int ((p0 &&& (2147483647 : Int32)) % (6 : Int32))), .val (.ref w_GREATER), .val (.int (4 : Int32)), .unset, .unset] [])) _
                  refine XS.iconst X50.here hx rfl (hb hby at_104) ?_
                  show Steps p.tables e below (T50.setTop (mkF m 105 #[.val (.int p0), .val (.int p1), .val (.int ((p0 &&& (2147483647 : Int32)) % (6 : Int32))), .val (.ref w_GREATER), .val (.int (4 : Int32)), .unset, .unset] [(.int (2 : Int32))])) _
                  refine XS.istore X50.here hx rfl (hb hby at_105) rfl (l' := #[.val (.int p0), .val (.int p1), .val (.int ((p0 &&& (2147483647 : Int32)) % (6 : Int32))), .val (.ref w_GREATER), .val (.int (4 : Int32)), .val (.int (2 : Int32)), .unset]) rfl ?_
                  show Steps p.tables e below (T50.setTop (mkF m 107 #[.val (.int p0), .val (.int p1), .val (.int ((p0 &&& (2147483647 : Int32)) % (6 : Int32))), .val (.ref w_GREATER), .val (.int (4 : Int32)), .val (.int (2 : Int32)), .unset] [])) _
                  refine XS.goto X50.here hx rfl (pc0 := 107) (pc' := 113) rfl (hb hby at_107) (by decide) (by decide) ?_
                  show Steps p.tables e below (T50.setTop (mkF m 113 #[.val (.int p0), .val (.int p1), .val (.int ((p0 &&& (2147483647 : Int32)) % (6 : Int32))), .val (.ref w_GREATER), .val (.int (4 : Int32)), .val (.int (2 : Int32)), .unset] [])) _
                  refine XS.iload X50.here hx rfl (hb hby at_113) rfl ?_
                  show Steps p.tables e below (T50.setTop (mkF m 115 #[.val (.int p0), .val (.int p1), .val (.int ((p0 &&& (2147483647 : Int32)) % (6 : Int32))), .val (.ref w_GREATER), .val (.int (4 : Int32)), .val (.int (2 : Int32)), .unset] [(.int (4 : Int32))])) _
                  refine XS.iload X50.here hx rfl (hb hby at_115) rfl ?_
                  show Steps p.tables e below (T50.setTop (mkF m 117 #[.val (.int p0), .val (.int p1), .val (.int ((p0 &&& (2147483647 : Int32)) % (6 : Int32))), .val (.ref w_GREATER), .val (.int (4 : Int32)), .val (.int (2 : Int32)), .unset] [(.int (2 : Int32)), (.int (4 : Int32))])) _
                  refine XS.iand X50.here hx rfl (hb hby at_117) rfl ?_
                  exact k
                refine own_go (A' := (T50.setTop (mkF m 125 #[.val (.int p0), .val (.int p1), .val (.int ((p0 &&& (2147483647 : Int32)) % (6 : Int32))), .val (.ref w_GREATER), .val (.int (4 : Int32)), .val (.int (2 : Int32)), .unset] []))) (fun t k => XS.ifYes X50.here hx rfl (pc0 := 118) (pc' := 125) rfl (hb hby at_118) rfl ((if0 _ _).trans (teq (by decide : ((4 : Int32) &&& (2 : Int32)) = (0 : Int32))).1) (by decide) (by decide) k) ?_
                obtain ⟨cq54, kq54, q54a, q54b, q54c⟩ := isOf hZ e50 E_GREATER
                obtain ⟨_, _, ⟨T54, L54, k54, n54⟩, -, X54, ⟨Lc54, hQ54, l54, y54, z54⟩, st54⟩ := X50.virtualBack hx (y := (⟨"com/example/pathwarden/pathwarden/flow/Relation", "holds", "(I)Z"⟩ : MethodName)) (z := (⟨"com/example/pathwarden/pathwarden/flow/Relation", "holds", "(I)Z"⟩ : MethodName)) hown (mvT hZ (hw _ (List.mem_of_getElem? (i := 4) rfl))) (mvT hZ (hw _ (List.mem_of_getElem? (i := 5) rfl))) (notFace_of_selects (args := #[]) (mvT hZ (hw _ (List.mem_of_getElem? (i := 7) rfl)))) (mvT hZ (hw _ (List.mem_of_getElem? (i := 7) rfl))) (mvT hZ (hw _ (List.mem_of_getElem? (i := 6) rfl))) (by decide) (backOf (W := 0) (rm1 l Z a0 hw [] w_GREATER p1 (5 : Int32) h0 n0 Z0 O_GREATER_ordinal E_GREATER (by decide)) hZ (hw _ (List.mem_of_getElem? (i := 8) rfl)) (hw _ (List.mem_of_getElem? (i := 2) rfl)) (by decide) (by decide)) q54a q54c (g := (mkF m 130 #[.val (.int p0), .val (.int p1), .val (.int ((p0 &&& (2147483647 : Int32)) % (6 : Int32))), .val (.ref w_GREATER), .val (.int (4 : Int32)), .val (.int (2 : Int32)), .val (.int (0 : Int32))] [(.int p1), (.ref w_GREATER)])) rfl (by rw [hml]; rfl) (Steps.refl _) (argsL := [(.int p1)]) (rest := []) (lenOf pd_1 rfl) rfl (by show 2 * 0 + _ ≤ _; exact Nat.le_of_eq rfl) (hb hby at_130) (fun _ _ => ⟨rfl, e50, (by decide : 0 + 0 ≤ _), (by decide : 0 + 0 ≤ _)⟩)
                dsimp only [Pt.U, Pt.locs, Pt.cells, Pt.slots] at X54 l54 y54 z54 st54 hQ54
                subst l54 y54 z54
                obtain ⟨rfl, N54q, e54⟩ := hQ54
                have N54 := Fr.app N0 N54q
                refine own_go (A' := (T54.setTop (mkF m 135 #[.val (.int p0), .val (.int p1), .val (.int ((p0 &&& (2147483647 : Int32)) % (6 : Int32))), .val (.ref w_GREATER), .val (.int (4 : Int32)), .val (.int (2 : Int32)), .val (.int (0 : Int32))] [(.int (0 : Int32)), (.int (hold (5 : Int32) p1))]))) (fun t k => ?_) ?_
                · show Steps p.tables e below (T50.setTop (mkF m 125 #[.val (.int p0), .val (.int p1), .val (.int ((p0 &&& (2147483647 : Int32)) % (6 : Int32))), .val (.ref w_GREATER), .val (.int (4 : Int32)), .val (.int (2 : Int32)), .unset] [])) _
                  refine XS.iconst X50.here hx rfl (hb hby at_125) ?_
                  show Steps p.tables e below (T50.setTop (mkF m 126 #[.val (.int p0), .val (.int p1), .val (.int ((p0 &&& (2147483647 : Int32)) % (6 : Int32))), .val (.ref w_GREATER), .val (.int (4 : Int32)), .val (.int (2 : Int32)), .unset] [(.int (0 : Int32))])) _
                  refine XS.istore X50.here hx rfl (hb hby at_126) rfl (l' := #[.val (.int p0), .val (.int p1), .val (.int ((p0 &&& (2147483647 : Int32)) % (6 : Int32))), .val (.ref w_GREATER), .val (.int (4 : Int32)), .val (.int (2 : Int32)), .val (.int (0 : Int32))]) rfl ?_
                  show Steps p.tables e below (T50.setTop (mkF m 128 #[.val (.int p0), .val (.int p1), .val (.int ((p0 &&& (2147483647 : Int32)) % (6 : Int32))), .val (.ref w_GREATER), .val (.int (4 : Int32)), .val (.int (2 : Int32)), .val (.int (0 : Int32))] [])) _
                  refine XS.aloadN X50.here hx rfl (hb hby at_128) rfl rfl ?_
                  show Steps p.tables e below (T50.setTop (mkF m 129 #[.val (.int p0), .val (.int p1), .val (.int ((p0 &&& (2147483647 : Int32)) % (6 : Int32))), .val (.ref w_GREATER), .val (.int (4 : Int32)), .val (.int (2 : Int32)), .val (.int (0 : Int32))] [(.ref w_GREATER)])) _
                  refine XS.iloadN X50.here hx rfl (hb hby at_129) rfl ?_
                  show Steps p.tables e below (T50.setTop (mkF m 130 #[.val (.int p0), .val (.int p1), .val (.int ((p0 &&& (2147483647 : Int32)) % (6 : Int32))), .val (.ref w_GREATER), .val (.int (4 : Int32)), .val (.int (2 : Int32)), .val (.int (0 : Int32))] [(.int p1), (.ref w_GREATER)])) _
                  refine st54.trans ?_
                  show Steps p.tables e below (T54.setTop (mkF m 133 #[.val (.int p0), .val (.int p1), .val (.int ((p0 &&& (2147483647 : Int32)) % (6 : Int32))), .val (.ref w_GREATER), .val (.int (4 : Int32)), .val (.int (2 : Int32)), .val (.int (0 : Int32))] [(.int (hold (5 : Int32) p1))])) _
                  refine XS.iload X54.here hx rfl (hb hby at_133) rfl ?_
                  exact k
                refine own_go (A' := (T54.setTop (mkF m 138 #[.val (.int p0), .val (.int p1), .val (.int ((p0 &&& (2147483647 : Int32)) % (6 : Int32))), .val (.ref w_GREATER), .val (.int (4 : Int32)), .val (.int (2 : Int32)), .val (.int (0 : Int32))] []))) (fun t k => XS.icmpNo X54.here hx rfl (hb hby at_135) rfl (teq (by simp [hold, hc53])).2 k) ?_
                refine own_go (A' := (T54.setTop (mkF m 143 #[.val (.int p0), .val (.int p1), .val (.int ((p0 &&& (2147483647 : Int32)) % (6 : Int32))), .val (.ref w_GREATER), .val (.int (4 : Int32)), .val (.int (2 : Int32)), .val (.int (0 : Int32))] [(.int (1 : Int32))]))) (fun t k => ?_) ?_
                · show Steps p.tables e below (T54.setTop (mkF m 138 #[.val (.int p0), .val (.int p1), .val (.int ((p0 &&& (2147483647 : Int32)) % (6 : Int32))), .val (.ref w_GREATER), .val (.int (4 : Int32)), .val (.int (2 : Int32)), .val (.int (0 : Int32))] [])) _
                  refine XS.iconst X54.here hx rfl (hb hby at_138) ?_
                  show Steps p.tables e below (T54.setTop (mkF m 139 #[.val (.int p0), .val (.int p1), .val (.int ((p0 &&& (2147483647 : Int32)) % (6 : Int32))), .val (.ref w_GREATER), .val (.int (4 : Int32)), .val (.int (2 : Int32)), .val (.int (0 : Int32))] [(.int (1 : Int32))])) _
                  refine XS.goto X54.here hx rfl (pc0 := 139) (pc' := 143) rfl (hb hby at_139) (by decide) (by decide) ?_
                  exact k
                obtain ⟨fs, hr, hrun, hended, hW, hsame⟩ := X54.leave (v := some (.int (1 : Int32))) (fun h => by rw [Bd.returns] at h; cases h)
                refine ⟨_, _, ?_, hrun, hended, _, _, rfl, ?_, ⟨_, rfl⟩, hW, hsame.mono (by decide) (by decide)⟩
                · show Steps p.tables e below (T54.setTop (mkF m 143 #[.val (.int p0), .val (.int p1), .val (.int ((p0 &&& (2147483647 : Int32)) % (6 : Int32))), .val (.ref w_GREATER), .val (.int (4 : Int32)), .val (.int (2 : Int32)), .val (.int (0 : Int32))] [(.int (1 : Int32))])) _
                  exact retN X54 hx (t := .boolean) Bd.returns (by simp) (hb hby at_143) hr
                · show Q0 Z p0 p1 w_LESS w_EQUAL w_GREATER_OR_EQUAL w_LESS_OR_EQUAL w_GREATER w_NOT_EQUAL h0 n0 _ _ _
                  exact ⟨rfl, N54⟩
              · -- hc53: no
                refine own_go (A' := (T50.setTop (mkF m 110 #[.val (.int p0), .val (.int p1), .val (.int ((p0 &&& (2147483647 : Int32)) % (6 : Int32))), .val (.ref w_GREATER), .val (.int (4 : Int32)), .unset, .unset] []))) (fun t k => XS.ifYes X50.here hx rfl (pc0 := 101) (pc' := 110) rfl (hb hby at_101) rfl ((if0 _ _).trans (feq hc53).2) (by decide) (by decide) k) ?_
                refine own_go (A' := (T50.setTop (mkF m 118 #[.val (.int p0), .val (.int p1), .val (.int ((p0 &&& (2147483647 : Int32)) % (6 : Int32))), .val (.ref w_GREATER), .val (.int (4 : Int32)), .val (.int (4 : Int32)), .unset] [(.int ((4 : Int32) &&& (4 : Int32)))]))) (fun t k => ?_) ?_
                · show Steps p.tables e below (T50.setTop (mkF m 110 #[.val (.int p0), .val (.int p1), .val (.int ((p0 &&& (2147483647 : Int32)) % (6 : Int32))), .val (.ref w_GREATER), .val (.int (4 : Int32)), .unset, .unset] [])) _
                  refine XS.iconst X50.here hx rfl (hb hby at_110) ?_
                  show Steps p.tables e below (T50.setTop (mkF m 111 #[.val (.int p0), .val (.int p1), .val (.int ((p0 &&& (2147483647 : Int32)) % (6 : Int32))), .val (.ref w_GREATER), .val (.int (4 : Int32)), .unset, .unset] [(.int (4 : Int32))])) _
                  refine XS.istore X50.here hx rfl (hb hby at_111) rfl (l' := #[.val (.int p0), .val (.int p1), .val (.int ((p0 &&& (2147483647 : Int32)) % (6 : Int32))), .val (.ref w_GREATER), .val (.int (4 : Int32)), .val (.int (4 : Int32)), .unset]) rfl ?_
                  show Steps p.tables e below (T50.setTop (mkF m 113 #[.val (.int p0), .val (.int p1), .val (.int ((p0 &&& (2147483647 : Int32)) % (6 : Int32))), .val (.ref w_GREATER), .val (.int (4 : Int32)), .val (.int (4 : Int32)), .unset] [])) _
                  refine XS.iload X50.here hx rfl (hb hby at_113) rfl ?_
                  show Steps p.tables e below (T50.setTop (mkF m 115 #[.val (.int p0), .val (.int p1), .val (.int ((p0 &&& (2147483647 : Int32)) % (6 : Int32))), .val (.ref w_GREATER), .val (.int (4 : Int32)), .val (.int (4 : Int32)), .unset] [(.int (4 : Int32))])) _
                  refine XS.iload X50.here hx rfl (hb hby at_115) rfl ?_
                  show Steps p.tables e below (T50.setTop (mkF m 117 #[.val (.int p0), .val (.int p1), .val (.int ((p0 &&& (2147483647 : Int32)) % (6 : Int32))), .val (.ref w_GREATER), .val (.int (4 : Int32)), .val (.int (4 : Int32)), .unset] [(.int (4 : Int32)), (.int (4 : Int32))])) _
                  refine XS.iand X50.here hx rfl (hb hby at_117) rfl ?_
                  exact k
                refine own_go (A' := (T50.setTop (mkF m 121 #[.val (.int p0), .val (.int p1), .val (.int ((p0 &&& (2147483647 : Int32)) % (6 : Int32))), .val (.ref w_GREATER), .val (.int (4 : Int32)), .val (.int (4 : Int32)), .unset] []))) (fun t k => XS.ifNo X50.here hx rfl (hb hby at_118) rfl ((if0 _ _).trans (feq (by decide : ¬ (((4 : Int32) &&& (4 : Int32)) = (0 : Int32)))).1) k) ?_
                obtain ⟨cq55, kq55, q55a, q55b, q55c⟩ := isOf hZ e50 E_GREATER
                obtain ⟨_, _, ⟨T55, L55, k55, n55⟩, -, X55, ⟨Lc55, hQ55, l55, y55, z55⟩, st55⟩ := X50.virtualBack hx (y := (⟨"com/example/pathwarden/pathwarden/flow/Relation", "holds", "(I)Z"⟩ : MethodName)) (z := (⟨"com/example/pathwarden/pathwarden/flow/Relation", "holds", "(I)Z"⟩ : MethodName)) hown (mvT hZ (hw _ (List.mem_of_getElem? (i := 4) rfl))) (mvT hZ (hw _ (List.mem_of_getElem? (i := 5) rfl))) (notFace_of_selects (args := #[]) (mvT hZ (hw _ (List.mem_of_getElem? (i := 7) rfl)))) (mvT hZ (hw _ (List.mem_of_getElem? (i := 7) rfl))) (mvT hZ (hw _ (List.mem_of_getElem? (i := 6) rfl))) (by decide) (backOf (W := 0) (rm1 l Z a0 hw [] w_GREATER p1 (5 : Int32) h0 n0 Z0 O_GREATER_ordinal E_GREATER (by decide)) hZ (hw _ (List.mem_of_getElem? (i := 8) rfl)) (hw _ (List.mem_of_getElem? (i := 2) rfl)) (by decide) (by decide)) q55a q55c (g := (mkF m 130 #[.val (.int p0), .val (.int p1), .val (.int ((p0 &&& (2147483647 : Int32)) % (6 : Int32))), .val (.ref w_GREATER), .val (.int (4 : Int32)), .val (.int (4 : Int32)), .val (.int (1 : Int32))] [(.int p1), (.ref w_GREATER)])) rfl (by rw [hml]; rfl) (Steps.refl _) (argsL := [(.int p1)]) (rest := []) (lenOf pd_1 rfl) rfl (by show 2 * 0 + _ ≤ _; exact Nat.le_of_eq rfl) (hb hby at_130) (fun _ _ => ⟨rfl, e50, (by decide : 0 + 0 ≤ _), (by decide : 0 + 0 ≤ _)⟩)
                dsimp only [Pt.U, Pt.locs, Pt.cells, Pt.slots] at X55 l55 y55 z55 st55 hQ55
                subst l55 y55 z55
                obtain ⟨rfl, N55q, e55⟩ := hQ55
                have N55 := Fr.app N0 N55q
                refine own_go (A' := (T55.setTop (mkF m 135 #[.val (.int p0), .val (.int p1), .val (.int ((p0 &&& (2147483647 : Int32)) % (6 : Int32))), .val (.ref w_GREATER), .val (.int (4 : Int32)), .val (.int (4 : Int32)), .val (.int (1 : Int32))] [(.int (1 : Int32)), (.int (hold (5 : Int32) p1))]))) (fun t k => ?_) ?_
                · show Steps p.tables e below (T50.setTop (mkF m 121 #[.val (.int p0), .val (.int p1), .val (.int ((p0 &&& (2147483647 : Int32)) % (6 : Int32))), .val (.ref w_GREATER), .val (.int (4 : Int32)), .val (.int (4 : Int32)), .unset] [])) _
                  refine XS.iconst X50.here hx rfl (hb hby at_121) ?_
                  show Steps p.tables e below (T50.setTop (mkF m 122 #[.val (.int p0), .val (.int p1), .val (.int ((p0 &&& (2147483647 : Int32)) % (6 : Int32))), .val (.ref w_GREATER), .val (.int (4 : Int32)), .val (.int (4 : Int32)), .unset] [(.int (1 : Int32))])) _
                  refine XS.goto X50.here hx rfl (pc0 := 122) (pc' := 126) rfl (hb hby at_122) (by decide) (by decide) ?_
                  show Steps p.tables e below (T50.setTop (mkF m 126 #[.val (.int p0), .val (.int p1), .val (.int ((p0 &&& (2147483647 : Int32)) % (6 : Int32))), .val (.ref w_GREATER), .val (.int (4 : Int32)), .val (.int (4 : Int32)), .unset] [(.int (1 : Int32))])) _
                  refine XS.istore X50.here hx rfl (hb hby at_126) rfl (l' := #[.val (.int p0), .val (.int p1), .val (.int ((p0 &&& (2147483647 : Int32)) % (6 : Int32))), .val (.ref w_GREATER), .val (.int (4 : Int32)), .val (.int (4 : Int32)), .val (.int (1 : Int32))]) rfl ?_
                  show Steps p.tables e below (T50.setTop (mkF m 128 #[.val (.int p0), .val (.int p1), .val (.int ((p0 &&& (2147483647 : Int32)) % (6 : Int32))), .val (.ref w_GREATER), .val (.int (4 : Int32)), .val (.int (4 : Int32)), .val (.int (1 : Int32))] [])) _
                  refine XS.aloadN X50.here hx rfl (hb hby at_128) rfl rfl ?_
                  show Steps p.tables e below (T50.setTop (mkF m 129 #[.val (.int p0), .val (.int p1), .val (.int ((p0 &&& (2147483647 : Int32)) % (6 : Int32))), .val (.ref w_GREATER), .val (.int (4 : Int32)), .val (.int (4 : Int32)), .val (.int (1 : Int32))] [(.ref w_GREATER)])) _
                  refine XS.iloadN X50.here hx rfl (hb hby at_129) rfl ?_
                  show Steps p.tables e below (T50.setTop (mkF m 130 #[.val (.int p0), .val (.int p1), .val (.int ((p0 &&& (2147483647 : Int32)) % (6 : Int32))), .val (.ref w_GREATER), .val (.int (4 : Int32)), .val (.int (4 : Int32)), .val (.int (1 : Int32))] [(.int p1), (.ref w_GREATER)])) _
                  refine st55.trans ?_
                  show Steps p.tables e below (T55.setTop (mkF m 133 #[.val (.int p0), .val (.int p1), .val (.int ((p0 &&& (2147483647 : Int32)) % (6 : Int32))), .val (.ref w_GREATER), .val (.int (4 : Int32)), .val (.int (4 : Int32)), .val (.int (1 : Int32))] [(.int (hold (5 : Int32) p1))])) _
                  refine XS.iload X55.here hx rfl (hb hby at_133) rfl ?_
                  exact k
                refine own_go (A' := (T55.setTop (mkF m 138 #[.val (.int p0), .val (.int p1), .val (.int ((p0 &&& (2147483647 : Int32)) % (6 : Int32))), .val (.ref w_GREATER), .val (.int (4 : Int32)), .val (.int (4 : Int32)), .val (.int (1 : Int32))] []))) (fun t k => XS.icmpNo X55.here hx rfl (hb hby at_135) rfl (teq (by simp [hold, hc51, hc53, own_hC hc51 hc53])).2 k) ?_
                refine own_go (A' := (T55.setTop (mkF m 143 #[.val (.int p0), .val (.int p1), .val (.int ((p0 &&& (2147483647 : Int32)) % (6 : Int32))), .val (.ref w_GREATER), .val (.int (4 : Int32)), .val (.int (4 : Int32)), .val (.int (1 : Int32))] [(.int (1 : Int32))]))) (fun t k => ?_) ?_
                · show Steps p.tables e below (T55.setTop (mkF m 138 #[.val (.int p0), .val (.int p1), .val (.int ((p0 &&& (2147483647 : Int32)) % (6 : Int32))), .val (.ref w_GREATER), .val (.int (4 : Int32)), .val (.int (4 : Int32)), .val (.int (1 : Int32))] [])) _
                  refine XS.iconst X55.here hx rfl (hb hby at_138) ?_
                  show Steps p.tables e below (T55.setTop (mkF m 139 #[.val (.int p0), .val (.int p1), .val (.int ((p0 &&& (2147483647 : Int32)) % (6 : Int32))), .val (.ref w_GREATER), .val (.int (4 : Int32)), .val (.int (4 : Int32)), .val (.int (1 : Int32))] [(.int (1 : Int32))])) _
                  refine XS.goto X55.here hx rfl (pc0 := 139) (pc' := 143) rfl (hb hby at_139) (by decide) (by decide) ?_
                  exact k
                obtain ⟨fs, hr, hrun, hended, hW, hsame⟩ := X55.leave (v := some (.int (1 : Int32))) (fun h => by rw [Bd.returns] at h; cases h)
                refine ⟨_, _, ?_, hrun, hended, _, _, rfl, ?_, ⟨_, rfl⟩, hW, hsame.mono (by decide) (by decide)⟩
                · show Steps p.tables e below (T55.setTop (mkF m 143 #[.val (.int p0), .val (.int p1), .val (.int ((p0 &&& (2147483647 : Int32)) % (6 : Int32))), .val (.ref w_GREATER), .val (.int (4 : Int32)), .val (.int (4 : Int32)), .val (.int (1 : Int32))] [(.int (1 : Int32))])) _
                  exact retN X55 hx (t := .boolean) Bd.returns (by simp) (hb hby at_143) hr
                · show Q0 Z p0 p1 w_LESS w_EQUAL w_GREATER_OR_EQUAL w_LESS_OR_EQUAL w_GREATER w_NOT_EQUAL h0 n0 _ _ _
                  exact ⟨rfl, N55⟩
theorem own_eqint {t : Term} {k : Int32} {args : Array Value} {first s : State} {o : Option Outcome} {idx : List Nat} (h : (Jvm.Cond.eq t (.int k)).value args first o s idx = some true) : t.eval args first o idx s = some (.int k) := by
  cases ht : t.eval args first o idx s with
  | none => simp [Cond.value, Term.eval, ht] at h
  | some x => cases x <;> simp [Cond.value, Term.eval, ht] at h; subst h; rfl
set_option maxRecDepth 65536 in
set_option maxHeartbeats 40000000 in
theorem comes_1 {Post : Tables → Env → Array Value → State → Outcome → State → Prop} (hpost : ∀ tb e args s v u, (limb_1_1.after args s (.returned v) u = true ∧ limb_1_2.after args s (.returned v) u = true ∧ True) → FrameEnd s (.returned v) u (Jvm.fieldLocs frame_1_writes args s ++ Jvm.arrayLocs frame_1_arrays args s ++ Jvm.staticLocs frame_1_statics s) 0 0 → Post tb e args s (.returned v) u) :
    ArmFor flags0 classFile x code maxLocals ret World_1 tables_1 room_1 Calls_1 rest_1 Pre_1 Post := by
  intro l hfl _ _ p e ha hc hk s m args below hf hA hF happ hP
  obtain ⟨hcalls, hrest, hpre⟩ := hP
  obtain ⟨-, -, -, hnamed, -, -, -, hat⟩ := (Spec.applies_iff hf).mp happ
  obtain ⟨hg, hn⟩ := and_e (Cond.before_iff.mp (show (Jvm.Cond.and given_1 narrow_1).before args s = true from hpre))
  have hv0 := (and_e (and_e hg).2).1
  have hv1 := (and_e (and_e hg).2).2
  obtain ⟨w0, w1, rfl⟩ : ∃ w0 w1 : Value, args = #[w0, w1] := by
    have hs : args.size = 2 := by simpa [Cond.value, given_1] using (and_e hg).1
    obtain ⟨L⟩ := args
    match L, hs with
    | [w0, w1], _ => exact ⟨w0, w1, rfl⟩
  have hw := fun d (hd : d ∈ tables_1) => atoms_spec (ws := Jvm.Cond.code x code maxLocals ret :: tables_1) hat d (List.mem_cons_of_mem _ hd)
  have hfit : Fit s := fun {y c} hc i hi => by
    obtain ⟨ha, rfl⟩ := Array.getElem?_eq_some_iff.mp hc
    have q := List.all_eq_true.mp ((Array.all_eq_true_iff_forall_mem.mp hF) _ (Array.getElem_mem ha)) i (List.mem_range.mpr hi)
    simpa [Array.getElem?_eq_getElem hi] using q
  obtain ⟨i0, ei0⟩ := is_v hv0
  obtain rfl : w0 = (.int i0) := Option.some.inj ei0
  obtain ⟨i1, ei1⟩ := is_v hv1
  obtain rfl : w1 = (.int i1) := Option.some.inj ei1
  have hx_LESS := (and_e hn).1
  obtain ⟨w_LESS, ev_LESS⟩ := exa_v hx_LESS
  have S_LESS : Sta s s.heap "com/example/pathwarden/pathwarden/flow/Relation" "LESS" "Lcom/example/pathwarden/pathwarden/flow/Relation;" (.ref w_LESS) := Sta.start ev_LESS (Or.inr ⟨(hw _ (List.mem_of_getElem? (i := 2) rfl)), (hw _ (List.mem_of_getElem? (i := 3) rfl))⟩)
  have E_LESS : Exa s s.heap w_LESS "com/example/pathwarden/pathwarden/flow/Relation" := Exa.start ev_LESS hx_LESS
  have O_LESS_ordinal : Fld s s.heap w_LESS "java/lang/Enum" "ordinal" "I" (.int (0 : Int32)) := Fld.start ((fld_at ev_LESS).symm.trans (own_eqint (and_e (and_e hn).2).1))
  have hx_EQUAL := (and_e (and_e (and_e hn).2).2).1
  obtain ⟨w_EQUAL, ev_EQUAL⟩ := exa_v hx_EQUAL
  have S_EQUAL : Sta s s.heap "com/example/pathwarden/pathwarden/flow/Relation" "EQUAL" "Lcom/example/pathwarden/pathwarden/flow/Relation;" (.ref w_EQUAL) := Sta.start ev_EQUAL (Or.inr ⟨(hw _ (List.mem_of_getElem? (i := 2) rfl)), (hw _ (List.mem_of_getElem? (i := 19) rfl))⟩)
  have E_EQUAL : Exa s s.heap w_EQUAL "com/example/pathwarden/pathwarden/flow/Relation" := Exa.start ev_EQUAL hx_EQUAL
  have O_EQUAL_ordinal : Fld s s.heap w_EQUAL "java/lang/Enum" "ordinal" "I" (.int (2 : Int32)) := Fld.start ((fld_at ev_EQUAL).symm.trans (own_eqint (and_e (and_e (and_e (and_e hn).2).2).2).1))
  have hx_GREATER_OR_EQUAL := (and_e (and_e (and_e (and_e (and_e hn).2).2).2).2).1
  obtain ⟨w_GREATER_OR_EQUAL, ev_GREATER_OR_EQUAL⟩ := exa_v hx_GREATER_OR_EQUAL
  have S_GREATER_OR_EQUAL : Sta s s.heap "com/example/pathwarden/pathwarden/flow/Relation" "GREATER_OR_EQUAL" "Lcom/example/pathwarden/pathwarden/flow/Relation;" (.ref w_GREATER_OR_EQUAL) := Sta.start ev_GREATER_OR_EQUAL (Or.inr ⟨(hw _ (List.mem_of_getElem? (i := 2) rfl)), (hw _ (List.mem_of_getElem? (i := 21) rfl))⟩)
  have E_GREATER_OR_EQUAL : Exa s s.heap w_GREATER_OR_EQUAL "com/example/pathwarden/pathwarden/flow/Relation" := Exa.start ev_GREATER_OR_EQUAL hx_GREATER_OR_EQUAL
  have O_GREATER_OR_EQUAL_ordinal : Fld s s.heap w_GREATER_OR_EQUAL "java/lang/Enum" "ordinal" "I" (.int (4 : Int32)) := Fld.start ((fld_at ev_GREATER_OR_EQUAL).symm.trans (own_eqint (and_e (and_e (and_e (and_e (and_e (and_e hn).2).2).2).2).2).1))
  have hx_LESS_OR_EQUAL := (and_e (and_e (and_e (and_e (and_e (and_e (and_e hn).2).2).2).2).2).2).1
  obtain ⟨w_LESS_OR_EQUAL, ev_LESS_OR_EQUAL⟩ := exa_v hx_LESS_OR_EQUAL
  have S_LESS_OR_EQUAL : Sta s s.heap "com/example/pathwarden/pathwarden/flow/Relation" "LESS_OR_EQUAL" "Lcom/example/pathwarden/pathwarden/flow/Relation;" (.ref w_LESS_OR_EQUAL) := Sta.start ev_LESS_OR_EQUAL (Or.inr ⟨(hw _ (List.mem_of_getElem? (i := 2) rfl)), (hw _ (List.mem_of_getElem? (i := 23) rfl))⟩)
  have E_LESS_OR_EQUAL : Exa s s.heap w_LESS_OR_EQUAL "com/example/pathwarden/pathwarden/flow/Relation" := Exa.start ev_LESS_OR_EQUAL hx_LESS_OR_EQUAL
  have O_LESS_OR_EQUAL_ordinal : Fld s s.heap w_LESS_OR_EQUAL "java/lang/Enum" "ordinal" "I" (.int (1 : Int32)) := Fld.start ((fld_at ev_LESS_OR_EQUAL).symm.trans (own_eqint (and_e (and_e (and_e (and_e (and_e (and_e (and_e (and_e hn).2).2).2).2).2).2).2).1))
  have hx_GREATER := (and_e (and_e (and_e (and_e (and_e (and_e (and_e (and_e (and_e hn).2).2).2).2).2).2).2).2).1
  obtain ⟨w_GREATER, ev_GREATER⟩ := exa_v hx_GREATER
  have S_GREATER : Sta s s.heap "com/example/pathwarden/pathwarden/flow/Relation" "GREATER" "Lcom/example/pathwarden/pathwarden/flow/Relation;" (.ref w_GREATER) := Sta.start ev_GREATER (Or.inr ⟨(hw _ (List.mem_of_getElem? (i := 2) rfl)), (hw _ (List.mem_of_getElem? (i := 25) rfl))⟩)
  have E_GREATER : Exa s s.heap w_GREATER "com/example/pathwarden/pathwarden/flow/Relation" := Exa.start ev_GREATER hx_GREATER
  have O_GREATER_ordinal : Fld s s.heap w_GREATER "java/lang/Enum" "ordinal" "I" (.int (5 : Int32)) := Fld.start ((fld_at ev_GREATER).symm.trans (own_eqint (and_e (and_e (and_e (and_e (and_e (and_e (and_e (and_e (and_e (and_e hn).2).2).2).2).2).2).2).2).2).1))
  have hx_NOT_EQUAL := (and_e (and_e (and_e (and_e (and_e (and_e (and_e (and_e (and_e (and_e (and_e hn).2).2).2).2).2).2).2).2).2).2).1
  obtain ⟨w_NOT_EQUAL, ev_NOT_EQUAL⟩ := exa_v hx_NOT_EQUAL
  have S_NOT_EQUAL : Sta s s.heap "com/example/pathwarden/pathwarden/flow/Relation" "NOT_EQUAL" "Lcom/example/pathwarden/pathwarden/flow/Relation;" (.ref w_NOT_EQUAL) := Sta.start ev_NOT_EQUAL (Or.inr ⟨(hw _ (List.mem_of_getElem? (i := 2) rfl)), (hw _ (List.mem_of_getElem? (i := 27) rfl))⟩)
  have E_NOT_EQUAL : Exa s s.heap w_NOT_EQUAL "com/example/pathwarden/pathwarden/flow/Relation" := Exa.start ev_NOT_EQUAL hx_NOT_EQUAL
  have O_NOT_EQUAL_ordinal : Fld s s.heap w_NOT_EQUAL "java/lang/Enum" "ordinal" "I" (.int (3 : Int32)) := Fld.start ((fld_at ev_NOT_EQUAL).symm.trans (own_eqint (and_e (and_e (and_e (and_e (and_e (and_e (and_e (and_e (and_e (and_e (and_e hn).2).2).2).2).2).2).2).2).2).2).2))
  obtain ⟨n, o, h1, h2, h3, _, L, rfl, ⟨rfl, N⟩, hq⟩ := rm0 l s _ hw tables_1 i0 i1 w_LESS w_EQUAL w_GREATER_OR_EQUAL w_LESS_OR_EQUAL w_GREATER w_NOT_EQUAL s.heap s.heap.size (Nat.le_refl _) S_LESS S_EQUAL S_GREATER_OR_EQUAL S_LESS_OR_EQUAL S_GREATER S_NOT_EQUAL E_LESS E_EQUAL E_GREATER_OR_EQUAL E_LESS_OR_EQUAL E_GREATER E_NOT_EQUAL O_LESS_ordinal O_EQUAL_ordinal O_GREATER_OR_EQUAL_ordinal O_LESS_OR_EQUAL_ordinal O_GREATER_ordinal O_NOT_EQUAL_ordinal p e ha hc hk s m _ below hf ((Spec.applies_iff_loose hf).mp happ).1 ⟨rfl, State.Warmed39.refl s, rfl⟩ trivial
  refine ⟨n, _, h1, h2, h3, hpost _ _ _ _ _ _ ⟨Cond.after_iff.mpr rfl, Cond.after_iff.mpr (eq_i res_at (Term.int_eval (1)) rfl), trivial⟩ ⟨hq.1, hq.2.1, (hq.2.2.sift fun y hy => Or.inr (N y hy)).mono (by decide) (by decide)⟩⟩
theorem main_1_1 : Claimed_1_1 := comes_1 fun _ _ _ _ _ _ h hF => ⟨h.1, hF⟩
theorem main_1_2 : Claimed_1_2 := comes_1 fun _ _ _ _ _ _ h hF => ⟨h.2.1, hF⟩
end Jvm.Pilot.@@N@@
namespace Jvm.Pilot.@@N@@
open Jvm Jvm.ClassFile Sem Op Lib Jvm.Free Jvm.Stand Jvm.Pilot.@@N@@.Jvm.D
/-! MADE BY PROGRAM (witnessworld.py) out of the Statement's table words and the real class files: 12 classes; the members and pool entries that the words name. The judged class is class 1, her method 1. -/
namespace start1
open Jvm.ClassFile
def u (s : String) : CpInfo := .utf8 (stringToUtf16 s)
/-- a pool by its gaps: so many unusable entries, then the entry; so many at the end -/
def gap : Nat → List CpInfo → List CpInfo
  | 0, r => r
  | n + 1, r => .unusable :: gap n r
def poolList (es : List (Nat × CpInfo)) (last : Nat) : List CpInfo := es.foldr (fun e r => gap e.1 (e.2 :: r)) (gap last [])
def pool (es : List (Nat × CpInfo)) (last : Nat) : Array CpInfo := ⟨poolList es last⟩
def fileOf (pool : Array CpInfo) (this : Nat) (attrs : Array Attribute := #[]) (ms : Array MethodInfo := #[]) (fl : Nat := 33) (sup : Nat := 0) (ifs : Array Nat := #[]) (fds : Array FieldInfo := #[]) : ClassFile where
  minorVersion := 0
  majorVersion := 65
  constantPool := pool
  accessFlags := fl
  thisClass := this
  superClass := sup
  interfaces := ifs
  fields := fds
  methods := ms
  attributes := attrs
def plain (name : String) (sup : Option ClassId) : Class where
  name := name
  kind := .ordinary
  loader := none
  accessFlags := 33
  super := sup
  interfaces := #[]
  cf := none
  fields := #[]
  methods := #[]
  instanceTypes := #[]
  staticTypes := #[]
  resolved := #[]
  callSites := []
  init := .initialized
  statics := none
  mirror := none

def pool0 : Array CpInfo := pool [(5, u "<init>"), (0, u "()V"), (1, .class_ 10), (1, u "java/lang/Object")] 113

def k0m0 : Method := { name := "<init>", desc := "()V", sig := { parameters := [], returnType := none }, accessFlags := 1, code := none }
/-- java/lang/Object -/
def k0 : Class := { plain "java/lang/Object" none with
  accessFlags := 33
  interfaces := #[]
  cf := some (fileOf pool0 8 #[] #[{ accessFlags := 1, nameIndex := 5, descriptorIndex := 6, attributes := #[] }] 33 0 #[] #[])
  fields := #[]
  methods := #[k0m0]
  instanceTypes := #[]
  staticTypes := #[]
  resolved := Array.replicate 124 none
  statics := none }

def pool1 : Array CpInfo := pool [(2, .class_ 4), (1, u "java/lang/Object"), (0, u "<init>"), (0, u "()V"), (0, .integer 2147483647), (0, .fieldref 9 10), (0, .class_ 11), (0, .nameAndType 12 13), (0, u "com/example/pathwarden/pathwarden/flow/Relation"), (0, u "LESS"), (0, u "Lcom/example/pathwarden/pathwarden/flow/Relation;"), (0, .fieldref 9 15), (0, .nameAndType 16 13), (0, u "LESS_OR_EQUAL"), (0, .fieldref 9 18), (0, .nameAndType 19 13), (0, u "EQUAL"), (0, .fieldref 9 21), (0, .nameAndType 22 13), (0, u "NOT_EQUAL"), (0, .fieldref 9 24), (0, .nameAndType 25 13), (0, u "GREATER_OR_EQUAL"), (0, .fieldref 9 27), (0, .nameAndType 28 13), (0, u "GREATER"), (0, .methodref 9 30), (0, .nameAndType 31 32), (0, u "holds"), (0, u "(I)Z"), (0, .class_ 34), (0, u "com/example/pathwarden/pathwarden/flow/RelationHoldsPinLaw"), (2, u "law"), (0, u "(II)Z")] 3

def k1m0 : Method := { name := "<init>", desc := "()V", sig := { parameters := [], returnType := none }, accessFlags := 1, code := none }
def k1c1 : Code := { maxStack := 2, maxLocals := 7, code := code, exceptionTable := #[], attributes := #[] }
def k1m1 : Method := { name := "law", desc := "(II)Z", sig := { parameters := [.int, .int], returnType := some .boolean }, accessFlags := 9, code := some k1c1 }
/-- com/example/pathwarden/pathwarden/flow/RelationHoldsPinLaw -/
def k1 : Class := { plain "com/example/pathwarden/pathwarden/flow/RelationHoldsPinLaw" (some 0) with
  accessFlags := 49
  interfaces := #[]
  cf := some (fileOf pool1 33 #[] #[{ accessFlags := 1, nameIndex := 5, descriptorIndex := 6, attributes := #[] }, { accessFlags := 9, nameIndex := 37, descriptorIndex := 38, attributes := #[] }] 49 2 #[] #[])
  fields := #[]
  methods := #[k1m0, k1m1]
  instanceTypes := #[]
  staticTypes := #[]
  resolved := Array.replicate 42 none
  statics := none }

def pool2 : Array CpInfo := pool [(1, .class_ 2), (0, u "java/lang/constant/Constable"), (0, .class_ 4), (0, u "java/lang/Object")] 6

/-- java/lang/constant/Constable -/
def k2 : Class := { plain "java/lang/constant/Constable" (some 0) with
  accessFlags := 1537
  interfaces := #[]
  cf := some (fileOf pool2 1 #[] #[] 1537 3 #[] #[])
  fields := #[]
  methods := #[]
  instanceTypes := #[]
  staticTypes := #[]
  resolved := Array.replicate 11 none
  statics := none }

def pool3 : Array CpInfo := pool [(1, .class_ 2), (0, u "java/lang/Comparable"), (0, .class_ 4), (0, u "java/lang/Object")] 7

/-- java/lang/Comparable -/
def k3 : Class := { plain "java/lang/Comparable" (some 0) with
  accessFlags := 1537
  interfaces := #[]
  cf := some (fileOf pool3 1 #[] #[] 1537 3 #[] #[])
  fields := #[]
  methods := #[]
  instanceTypes := #[]
  staticTypes := #[]
  resolved := Array.replicate 12 none
  statics := none }

def pool4 : Array CpInfo := pool [(1, .class_ 2), (0, u "java/io/Serializable"), (0, .class_ 4), (0, u "java/lang/Object")] 2

/-- java/io/Serializable -/
def k4 : Class := { plain "java/io/Serializable" (some 0) with
  accessFlags := 1537
  interfaces := #[]
  cf := some (fileOf pool4 1 #[] #[] 1537 3 #[] #[])
  fields := #[]
  methods := #[]
  instanceTypes := #[]
  staticTypes := #[]
  resolved := Array.replicate 7 none
  statics := none }

def pool5 : Array CpInfo := pool [(2, .class_ 4), (1, u "java/lang/Enum"), (0, u "name"), (0, u "Ljava/lang/String;"), (0, .fieldref 2 8), (0, .nameAndType 9 10), (0, u "ordinal"), (0, u "I"), (1, .class_ 14), (1, u "java/lang/Object"), (4, u "hash"), (86, .class_ 108), (1, u "java/lang/Enum$EnumDesc"), (2, .class_ 112), (0, u "java/lang/constant/Constable"), (0, .class_ 114), (0, u "java/lang/Comparable"), (0, .class_ 116), (0, u "java/io/Serializable"), (9, u "()I")] 77

def k5c0 : Code := { maxStack := 1, maxLocals := 1, code := jdk_37_method_2_code, exceptionTable := #[], attributes := #[] }
def k5m0 : Method := { name := "ordinal", desc := "()I", sig := { parameters := [], returnType := some .int }, accessFlags := 17, code := some k5c0 }
/-- java/lang/Enum -/
def k5 : Class := { plain "java/lang/Enum" (some 0) with
  accessFlags := 1057
  interfaces := #[2, 3, 4]
  cf := some (fileOf pool5 2 #[.nestMembers #[106]] #[{ accessFlags := 17, nameIndex := 9, descriptorIndex := 126, attributes := #[] }] 1057 12 #[111, 113, 115] #[{ accessFlags := 18, nameIndex := 5, descriptorIndex := 6, attributes := #[] }, { accessFlags := 18, nameIndex := 9, descriptorIndex := 10, attributes := #[] }, { accessFlags := 2, nameIndex := 19, descriptorIndex := 10, attributes := #[] }])
  fields := #[{ name := "name", type := (.object "java/lang/String"), accessFlags := 18, slot := 0, constantValue := 0 }, { name := "ordinal", type := .int, accessFlags := 18, slot := 1, constantValue := 0 }, { name := "hash", type := .int, accessFlags := 2, slot := 2, constantValue := 0 }]
  methods := #[k5m0]
  instanceTypes := #[(.object "java/lang/String"), .int, .int]
  staticTypes := #[]
  resolved := Array.replicate 204 none
  statics := none }

def pool6 : Array CpInfo := pool [(1, .class_ 2), (0, u "com/example/pathwarden/pathwarden/flow/Relation"), (2, u "LESS"), (0, u "Lcom/example/pathwarden/pathwarden/flow/Relation;"), (2, u "LESS_OR_EQUAL"), (2, u "EQUAL"), (2, u "NOT_EQUAL"), (2, u "GREATER_OR_EQUAL"), (2, u "GREATER"), (2, u "$VALUES"), (0, u "[Lcom/example/pathwarden/pathwarden/flow/Relation;"), (6, .class_ 34), (1, u "java/lang/Enum"), (6, .methodref 1 42), (0, .nameAndType 43 44), (0, u "ordinal"), (0, u "()I"), (23, u "holds"), (0, u "(I)Z")] 7

def k6c0 : Code := { maxStack := 4, maxLocals := 2, code := prog_107_method_4_code, exceptionTable := #[], attributes := #[] }
def k6m0 : Method := { name := "holds", desc := "(I)Z", sig := { parameters := [.int], returnType := some .boolean }, accessFlags := 1, code := some k6c0 }
/-- com/example/pathwarden/pathwarden/flow/Relation -/
def k6 : Class := { plain "com/example/pathwarden/pathwarden/flow/Relation" (some 5) with
  accessFlags := 16433
  interfaces := #[]
  cf := some (fileOf pool6 1 #[] #[{ accessFlags := 1, nameIndex := 68, descriptorIndex := 69, attributes := #[] }] 16433 32 #[] #[{ accessFlags := 16409, nameIndex := 5, descriptorIndex := 6, attributes := #[] }, { accessFlags := 16409, nameIndex := 9, descriptorIndex := 6, attributes := #[] }, { accessFlags := 16409, nameIndex := 12, descriptorIndex := 6, attributes := #[] }, { accessFlags := 16409, nameIndex := 15, descriptorIndex := 6, attributes := #[] }, { accessFlags := 16409, nameIndex := 18, descriptorIndex := 6, attributes := #[] }, { accessFlags := 16409, nameIndex := 21, descriptorIndex := 6, attributes := #[] }, { accessFlags := 4122, nameIndex := 24, descriptorIndex := 25, attributes := #[] }])
  fields := #[{ name := "LESS", type := (.object "com/example/pathwarden/pathwarden/flow/Relation"), accessFlags := 16409, slot := 0, constantValue := 0 }, { name := "LESS_OR_EQUAL", type := (.object "com/example/pathwarden/pathwarden/flow/Relation"), accessFlags := 16409, slot := 1, constantValue := 0 }, { name := "EQUAL", type := (.object "com/example/pathwarden/pathwarden/flow/Relation"), accessFlags := 16409, slot := 2, constantValue := 0 }, { name := "NOT_EQUAL", type := (.object "com/example/pathwarden/pathwarden/flow/Relation"), accessFlags := 16409, slot := 3, constantValue := 0 }, { name := "GREATER_OR_EQUAL", type := (.object "com/example/pathwarden/pathwarden/flow/Relation"), accessFlags := 16409, slot := 4, constantValue := 0 }, { name := "GREATER", type := (.object "com/example/pathwarden/pathwarden/flow/Relation"), accessFlags := 16409, slot := 5, constantValue := 0 }, { name := "$VALUES", type := (.array (.object "com/example/pathwarden/pathwarden/flow/Relation")), accessFlags := 4122, slot := 6, constantValue := 0 }]
  methods := #[k6m0]
  instanceTypes := #[(.object "java/lang/String"), .int, .int]
  staticTypes := #[(.object "com/example/pathwarden/pathwarden/flow/Relation"), (.object "com/example/pathwarden/pathwarden/flow/Relation"), (.object "com/example/pathwarden/pathwarden/flow/Relation"), (.object "com/example/pathwarden/pathwarden/flow/Relation"), (.object "com/example/pathwarden/pathwarden/flow/Relation"), (.object "com/example/pathwarden/pathwarden/flow/Relation"), (.array (.object "com/example/pathwarden/pathwarden/flow/Relation"))]
  resolved := Array.replicate 77 none
  statics := some 0 }

def pool7 : Array CpInfo := pool [(1, u "java/lang/Cloneable"), (0, .class_ 1), (0, u "java/lang/Object"), (0, .class_ 3)] 3

/-- java/lang/Cloneable -/
def k7 : Class := { plain "java/lang/Cloneable" (some 0) with
  accessFlags := 1537
  interfaces := #[]
  cf := some (fileOf pool7 2 #[] #[] 1537 4 #[] #[])
  fields := #[]
  methods := #[]
  instanceTypes := #[]
  staticTypes := #[]
  resolved := Array.replicate 8 none
  statics := none }

/-- the primitive byte -/
def k8 : Class := { plain "byte" none with kind := .primitive 'B', accessFlags := 0x411 }
/-- [B -/
def k9 : Class := { plain "[B" (some 0) with kind := .array 8 .byte, interfaces := #[7, 4], accessFlags := 1041 }

/-- the primitive int -/
def k10 : Class := { plain "int" none with kind := .primitive 'I', accessFlags := 0x411 }
/-- [I -/
def k11 : Class := { plain "[I" (some 0) with kind := .array 10 .int, interfaces := #[7, 4], accessFlags := 1041 }

def heap : Heap := #[{ cls := 6, slots := #[.ref 1, .ref 4, .ref 2, .ref 6, .ref 3, .ref 5, .null], vm := .statics 6 },
  { cls := 6, slots := #[.null, .int 0, .int 0], vm := .none },
  { cls := 6, slots := #[.null, .int 2, .int 0], vm := .none },
  { cls := 6, slots := #[.null, .int 4, .int 0], vm := .none },
  { cls := 6, slots := #[.null, .int 1, .int 0], vm := .none },
  { cls := 6, slots := #[.null, .int 5, .int 0], vm := .none },
  { cls := 6, slots := #[.null, .int 3, .int 0], vm := .none }]
def classes : Array Class := #[k0, k1, k2, k3, k4, k5, k6, k7, k8, k9, k10, k11]
def interned : List (Array UInt16 × Addr) := []
def slotsUsed : Nat := 25
def theMethod : MethodId := ⟨1, 1⟩
def args0 : Array Value := #[.int 5, .int 3]
def aboutOver (below : List Frame) : State where
  vm := { classes := classes, interned := interned.toArray }
  heap := heap
  slotsUsed := slotsUsed
  threads := #[{ frames := .invoking theMethod args0 :: below }]
def below0 : List Frame := [.native { method := ⟨0, 0⟩, args := #[] }]
def about1 : State := aboutOver below0
def p0 : Program := .bare "" "" ""
def e0 : Env := launch0.env 0 0 0
theorem w_frames : about1.frames = Frame.invoking theMethod args0 :: below0 := rfl
set_option maxRecDepth 65536 in
theorem w_args : argsFit about1.vm theMethod args0 = true := by decide +kernel
set_option maxRecDepth 65536 in
theorem w_heap : heapFits about1 = true := by decide +kernel
set_option maxRecDepth 65536 in
theorem w_runnable : about1.curStatus? = some .runnable := by decide +kernel
set_option maxRecDepth 65536 in
theorem w_alone : about1.alone = true := by decide +kernel
set_option maxRecDepth 65536 in
theorem w_named : about1.methodNamed? x = some theMethod := by decide +kernel
set_option maxRecDepth 65536 in
theorem w_hears : about1.hears theMethod below0 = true := by decide +kernel
set_option maxRecDepth 65536 in
theorem w_ripe : about1.ripe theMethod args0 below0 = true := by decide +kernel
theorem w_running : about1.status = .running := rfl
set_option maxRecDepth 65536 in
theorem w_room : about1.hasRoom e0.platform room_1 = true :=
  launch0.hasRoom_least _ room_1 (by decide +kernel) (by decide +kernel) (by decide +kernel) (by decide +kernel) (by decide +kernel) (by decide +kernel)
theorem allAtoms_all (ts : List Jvm.Cond) (a : Array Jvm.Value) (st : Jvm.State) : (allAtoms ts).before a st = ts.all (fun c => c.before a st) := by
  induction ts with
  | nil => rfl
  | cons c t ih =>
    show (Jvm.Cond.and c (allAtoms t)).before a st = _
    rw [Jvm.Cond.before_and, ih, List.all_cons]
def words1 : List Jvm.Cond := Jvm.Cond.code x code maxLocals ret :: tables_1
/-- a 'code' word, met by the world's own term for the bytes: nothing is compared byte by byte -/
theorem code_word {y : MethodName} {bytes : ByteArray} {mx : Nat} {rt : Option FieldType} {a : Array Value} {s : State} {m : MethodId} {meth : Method} {c : Code} (h1 : s.methodNamed? y = some m) (h2 : s.vm.method? m = some meth) (h3 : meth.code = some c) (h4 : c.code = bytes)
    (h5 : (c.maxLocals == mx && c.exceptionTable.isEmpty && decide (c.maxStack ≤ mostOperands) && decide (meth.sig.returnType = rt) && !meth.locks && decide (parseMethodDescriptor y.desc = some meth.sig)) = true) : (Jvm.Cond.code y bytes mx rt).before a s = true := by
  simp only [Bool.and_eq_true, beq_iff_eq, Bool.not_eq_true', decide_eq_true_eq] at h5
  obtain ⟨⟨⟨⟨⟨g1, g2⟩, g3⟩, g4⟩, g5⟩, g6⟩ := h5
  simp [Cond.before, Cond.holds, Cond.value, h1, h2, h3, h4, g1, g2, g3, g4, g5, g6]
def isCode : Jvm.Cond → Bool
  | .code _ _ _ _ => true
  | _ => false
theorem all_split {L : List Jvm.Cond} {P : Jvm.Cond → Bool} (h1 : L.all (fun c => isCode c || P c) = true) (h2 : ∀ c ∈ L.filter isCode, P c = true) : L.all P = true := by
  refine List.all_eq_true.mpr fun c hc => ?_
  have h := List.all_eq_true.mp h1 c hc
  rcases Bool.eq_false_or_eq_true (isCode c) with hi | hi
  · exact h2 c (List.mem_filter.mpr ⟨hc, hi⟩)
  · simpa [hi] using h
set_option maxRecDepth 65536 in
theorem w_c0 : (Jvm.Cond.code x code maxLocals ret).before args0 about1 = true := code_word (m := ⟨1, 1⟩) (meth := k1m1) (c := k1c1) (by decide +kernel) rfl rfl rfl (by decide +kernel)
set_option maxRecDepth 65536 in
theorem w_c1 : (Jvm.Cond.code ({ cls := "com/example/pathwarden/pathwarden/flow/Relation", name := "holds", desc := "(I)Z" } : Jvm.MethodName) prog_107_method_4_code (2 : Nat) (Option.some Jvm.ClassFile.FieldType.boolean)).before args0 about1 = true := code_word (m := ⟨6, 0⟩) (meth := k6m0) (c := k6c0) (by decide +kernel) rfl rfl rfl (by decide +kernel)
set_option maxRecDepth 65536 in
theorem w_c2 : (Jvm.Cond.code ({ cls := "java/lang/Enum", name := "ordinal", desc := "()I" } : Jvm.MethodName) jdk_37_method_2_code (1 : Nat) (Option.some Jvm.ClassFile.FieldType.int)).before args0 about1 = true := code_word (m := ⟨5, 0⟩) (meth := k5m0) (c := k5c0) (by decide +kernel) rfl rfl rfl (by decide +kernel)
def codes1 : List Jvm.Cond := [Jvm.Cond.code x code maxLocals ret, Jvm.Cond.code ({ cls := "com/example/pathwarden/pathwarden/flow/Relation", name := "holds", desc := "(I)Z" } : Jvm.MethodName) prog_107_method_4_code (2 : Nat) (Option.some Jvm.ClassFile.FieldType.boolean), Jvm.Cond.code ({ cls := "java/lang/Enum", name := "ordinal", desc := "()I" } : Jvm.MethodName) jdk_37_method_2_code (1 : Nat) (Option.some Jvm.ClassFile.FieldType.int)]
set_option maxRecDepth 65536 in
theorem codes_eq : words1.filter isCode = codes1 := rfl
theorem w_codes : ∀ c ∈ words1.filter isCode, c.before args0 about1 = true := by
  rw [codes_eq]
  intro c hc
  simp only [codes1, List.mem_cons, List.not_mem_nil, or_false] at hc
  rcases hc with rfl | rfl | rfl
  · exact w_c0
  · exact w_c1
  · exact w_c2
set_option maxRecDepth 65536 in
theorem w_t1 : (words1.take 24).all (fun c => isCode c || c.before args0 about1) = true := by decide +kernel
set_option maxRecDepth 65536 in
theorem w_t2 : (words1.drop 24).all (fun c => isCode c || c.before args0 about1) = true := by decide +kernel
theorem w_tables : (allAtoms (Jvm.Cond.code x code maxLocals ret :: tables_1)).before args0 about1 = true := by
  rw [allAtoms_all]
  show words1.all (fun c => c.before args0 about1) = true
  refine all_split ?_ w_codes
  rw [← List.take_append_drop 24 words1, List.all_append, w_t1, w_t2]
  rfl
set_option maxRecDepth 65536 in
theorem w_case : (Jvm.Cond.and given_1 narrow_1).before args0 about1 = true := by decide +kernel
theorem w_applies : (headSpec (Jvm.Cond.code x code maxLocals ret :: tables_1) room_1).applies x e0.platform about1 = true :=
  (Spec.applies_iff w_frames).mpr ⟨w_running, w_runnable, w_alone, w_named, w_hears, w_ripe, w_room, w_tables⟩
theorem atStart : AtStart classFile x code maxLocals ret World_1 tables_1 room_1 Calls_1 rest_1 Pre_1 launch0 p0 e0 about1 theMethod args0 below0 :=
  ⟨lists_1, trivial, launch0.admits_env _ _ _, launch0.least_env, fairChoices_fair.cas, fairChoices_fair.clock, w_frames, w_args, w_heap, w_applies, trivial, trivial, w_case⟩
end start1
theorem witness_1 : WitnessClaimed_1 := ⟨start1.p0, start1.e0, start1.about1, start1.theMethod, start1.args0, start1.below0, start1.atStart⟩
end Jvm.Pilot.@@N@@
